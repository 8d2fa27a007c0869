/- S6357B: the law's flags, one store. -/
import Derived.Test.YbulkeaqaBReg
namespace Go.Proofs.Ybulkeaqa
open Go.RowKit Go.Shelf
set_option linter.unusedSimpArgs false
attribute [local go_sem] Oper.semAt_some eql33

set_option maxHeartbeats 4000000 in
set_option maxRecDepth 100000 in
theorem reg17a {wr : World} {Bz Bv oldN nx i mn mc : Nat} {mA : Option Addr} {vv : Value} {Q : Exit → Act → World → Prop} {a0 : Act} (hz0 : Hid (a0.tmps.size = 531)) (e16_0 : a0.tmps[16]? = some (.pointer (some ⟨Bz, 0, none⟩))) (e17_0 : a0.tmps[17]? = some (.int .i64 (i : Nat))) (e15_0 : a0.tmps[15]? = some (.int .i64 (nx : Nat))) (e3_0 : a0.tmps[3]? = some (.slice mA mn mc)) (hc1 :  i < nx) 
    (z2 : wr.drew.cell? ⟨Bz, 2, none⟩ = some (.slice (some ⟨Bv, 0, none⟩) oldN oldN)) (hi : i < oldN) (vc : wr.drew.cell? ⟨Bv, i, none⟩ = some vv) (vf : wr.drew.frozen? ⟨Bv, i, none⟩ = false) (hne : Bz ≠ Bv)
    (hQ : Hid (∀ (a' : Act), a' = ((((((((((((((((((((((((((a0.put (some 81) (.pointer (some ⟨Bz, 0, none⟩))).put (some 82) (.pointer (some ⟨Bz, 0, none⟩))).put (some 83) (.pointer (some ⟨Bz, 2, none⟩))).put (some 84) (.slice (some ⟨Bv, 0, none⟩) oldN oldN)).put (some 85) (.int .i64 (i : Nat))).put (some 86) (.int .i64 (i : Nat))).put (some 87) (.int .i64 (nx : Nat))).put (some 88) (.bool true)).put (some 89) (.bool true)).put (some 90) (undef)).put (some 91) (undef)).put (some 92) (undef)).put (some 93) (undef)).put (some 94) (undef)).put (some 95) (undef)).put (some 96) (undef)).put (some 97) (undef)).put (some 98) (undef)).put (some 99) (undef)).put (some 100) (undef)).put (some 101) (undef)).put (some 102) (undef)).put (some 103) (undef)).put (some 104) (undef)).put (some 105) (.bool true)).put (some 106) (.pointer (some ⟨Bv, i, none⟩))) → Q .normal a' (wr.drew.setCell ⟨Bv, i, none⟩ (.bool true)))) :
    Code.wp Yba.prog (regOf 17 (bodyOf Yba.f3)) Q a0 wr := by
  conv => arg 2; whnf
  have hSW : (fun w' : World => w'.cell? ⟨Bz, 2, none⟩ = some (.slice (some ⟨Bv, 0, none⟩) oldN oldN) ) wr.drew := z2
  refine wp_region_noPanic ?_
  refine wp_region_held_drew (S := (fun w' : World => w'.cell? ⟨Bz, 2, none⟩ = some (.slice (some ⟨Bv, 0, none⟩) oldN oldN) )) (by kernel_rfl) hSW (fun _ => ?_)
  refine wpAnyH_take (i := 0) (v := .pointer (some ⟨Bz, 0, none⟩)) rfl (by kernel_rfl) (by kernel_rfl) (by kernel_rfl) (fun _ _ _ h => h) (Or.inl ⟨by rfl, ?_⟩) hSW ?_
  · rintro w' k1; go_simp
  obtain ⟨a1, ha1⟩ : ∃ a1, a1 = a0.put (some 81) (.pointer (some ⟨Bz, 0, none⟩)) := ⟨_, rfl⟩
  refine wpAnyH_at ha1 ?_
  have hz1 : Hid (a1.tmps.size = 531) := put_size ha1 hz0.out
  have e16_1 := put_ne ha1 (by decide) e16_0
  have e17_1 := put_ne ha1 (by decide) e17_0
  have e15_1 := put_ne ha1 (by decide) e15_0
  have e3_1 := put_ne ha1 (by decide) e3_0
  have e81_1 := put_get ha1 (by rw [hz0.out]; decide)
  have Ha1 : Hid _ := ha1
  clear hz0 ha1 e16_0 e17_0 e15_0 e3_0
  refine wpAnyH_take (i := 1) (v := .pointer (some ⟨Bz, 0, none⟩)) rfl (by kernel_rfl) (by kernel_rfl) (by kernel_rfl) (fun _ _ _ h => h) (Or.inl ⟨by rfl, ?_⟩) hSW ?_
  · rintro w' k1; go_simp
  obtain ⟨a2, ha2⟩ : ∃ a2, a2 = a1.put (some 82) (.pointer (some ⟨Bz, 0, none⟩)) := ⟨_, rfl⟩
  refine wpAnyH_at ha2 ?_
  have hz2 : Hid (a2.tmps.size = 531) := put_size ha2 hz1.out
  have e16_2 := put_ne ha2 (by decide) e16_1
  have e17_2 := put_ne ha2 (by decide) e17_1
  have e15_2 := put_ne ha2 (by decide) e15_1
  have e3_2 := put_ne ha2 (by decide) e3_1
  have e81_2 := put_ne ha2 (by decide) e81_1
  have e82_2 := put_get ha2 (by rw [hz1.out]; decide)
  have Ha2 : Hid _ := ha2
  clear hz1 ha2 e16_1 e17_1 e15_1 e3_1 e81_1
  refine wpAnyH_take (i := 2) (v := .pointer (some ⟨Bz, 2, none⟩)) rfl (by kernel_rfl) (by kernel_rfl) (by kernel_rfl) (fun _ _ _ h => h) (Or.inl ⟨by rfl, ?_⟩) hSW ?_
  · rintro w' k1; go_simp
  obtain ⟨a3, ha3⟩ : ∃ a3, a3 = a2.put (some 83) (.pointer (some ⟨Bz, 2, none⟩)) := ⟨_, rfl⟩
  refine wpAnyH_at ha3 ?_
  have hz3 : Hid (a3.tmps.size = 531) := put_size ha3 hz2.out
  have e16_3 := put_ne ha3 (by decide) e16_2
  have e17_3 := put_ne ha3 (by decide) e17_2
  have e15_3 := put_ne ha3 (by decide) e15_2
  have e3_3 := put_ne ha3 (by decide) e3_2
  have e81_3 := put_ne ha3 (by decide) e81_2
  have e82_3 := put_ne ha3 (by decide) e82_2
  have e83_3 := put_get ha3 (by rw [hz2.out]; decide)
  have Ha3 : Hid _ := ha3
  clear hz2 ha3 e16_2 e17_2 e15_2 e3_2 e81_2 e82_2
  refine wpAnyH_take (i := 3) (v := .slice (some ⟨Bv, 0, none⟩) oldN oldN) rfl (by kernel_rfl) (by kernel_rfl) (by kernel_rfl) (fun _ _ _ h => h) (Or.inl ⟨by rfl, ?_⟩) hSW ?_
  · rintro w' k1; go_simp
  obtain ⟨a4, ha4⟩ : ∃ a4, a4 = a3.put (some 84) (.slice (some ⟨Bv, 0, none⟩) oldN oldN) := ⟨_, rfl⟩
  refine wpAnyH_at ha4 ?_
  have hz4 : Hid (a4.tmps.size = 531) := put_size ha4 hz3.out
  have e16_4 := put_ne ha4 (by decide) e16_3
  have e17_4 := put_ne ha4 (by decide) e17_3
  have e15_4 := put_ne ha4 (by decide) e15_3
  have e3_4 := put_ne ha4 (by decide) e3_3
  have e81_4 := put_ne ha4 (by decide) e81_3
  have e82_4 := put_ne ha4 (by decide) e82_3
  have e83_4 := put_ne ha4 (by decide) e83_3
  have e84_4 := put_get ha4 (by rw [hz3.out]; decide)
  have Ha4 : Hid _ := ha4
  clear hz3 ha4 e16_3 e17_3 e15_3 e3_3 e81_3 e82_3 e83_3
  refine wpAnyH_take (i := 4) (v := .int .i64 (i : Nat)) rfl (by kernel_rfl) (by kernel_rfl) (by kernel_rfl) (fun _ _ _ h => h) (Or.inl ⟨by rfl, ?_⟩) hSW ?_
  · rintro w' k1; go_simp
  obtain ⟨a5, ha5⟩ : ∃ a5, a5 = a4.put (some 85) (.int .i64 (i : Nat)) := ⟨_, rfl⟩
  refine wpAnyH_at ha5 ?_
  have hz5 : Hid (a5.tmps.size = 531) := put_size ha5 hz4.out
  have e16_5 := put_ne ha5 (by decide) e16_4
  have e17_5 := put_ne ha5 (by decide) e17_4
  have e15_5 := put_ne ha5 (by decide) e15_4
  have e3_5 := put_ne ha5 (by decide) e3_4
  have e81_5 := put_ne ha5 (by decide) e81_4
  have e82_5 := put_ne ha5 (by decide) e82_4
  have e83_5 := put_ne ha5 (by decide) e83_4
  have e84_5 := put_ne ha5 (by decide) e84_4
  have e85_5 := put_get ha5 (by rw [hz4.out]; decide)
  have Ha5 : Hid _ := ha5
  clear hz4 ha5 e16_4 e17_4 e15_4 e3_4 e81_4 e82_4 e83_4 e84_4
  refine wpAnyH_take (i := 5) (v := .int .i64 (i : Nat)) rfl (by kernel_rfl) (by kernel_rfl) (by kernel_rfl) (fun _ _ _ h => h) (Or.inl ⟨by rfl, ?_⟩) hSW ?_
  · rintro w' k1; go_simp
  obtain ⟨a6, ha6⟩ : ∃ a6, a6 = a5.put (some 86) (.int .i64 (i : Nat)) := ⟨_, rfl⟩
  refine wpAnyH_at ha6 ?_
  have hz6 : Hid (a6.tmps.size = 531) := put_size ha6 hz5.out
  have e16_6 := put_ne ha6 (by decide) e16_5
  have e17_6 := put_ne ha6 (by decide) e17_5
  have e15_6 := put_ne ha6 (by decide) e15_5
  have e3_6 := put_ne ha6 (by decide) e3_5
  have e81_6 := put_ne ha6 (by decide) e81_5
  have e82_6 := put_ne ha6 (by decide) e82_5
  have e83_6 := put_ne ha6 (by decide) e83_5
  have e84_6 := put_ne ha6 (by decide) e84_5
  have e85_6 := put_ne ha6 (by decide) e85_5
  have e86_6 := put_get ha6 (by rw [hz5.out]; decide)
  have Ha6 : Hid _ := ha6
  clear hz5 ha6 e16_5 e17_5 e15_5 e3_5 e81_5 e82_5 e83_5 e84_5 e85_5
  refine wpAnyH_take (i := 6) (v := .int .i64 (nx : Nat)) rfl (by kernel_rfl) (by kernel_rfl) (by kernel_rfl) (fun _ _ _ h => h) (Or.inl ⟨by rfl, ?_⟩) hSW ?_
  · rintro w' k1; go_simp
  obtain ⟨a7, ha7⟩ : ∃ a7, a7 = a6.put (some 87) (.int .i64 (nx : Nat)) := ⟨_, rfl⟩
  refine wpAnyH_at ha7 ?_
  have hz7 : Hid (a7.tmps.size = 531) := put_size ha7 hz6.out
  have e16_7 := put_ne ha7 (by decide) e16_6
  have e17_7 := put_ne ha7 (by decide) e17_6
  have e15_7 := put_ne ha7 (by decide) e15_6
  have e3_7 := put_ne ha7 (by decide) e3_6
  have e81_7 := put_ne ha7 (by decide) e81_6
  have e82_7 := put_ne ha7 (by decide) e82_6
  have e83_7 := put_ne ha7 (by decide) e83_6
  have e84_7 := put_ne ha7 (by decide) e84_6
  have e85_7 := put_ne ha7 (by decide) e85_6
  have e86_7 := put_ne ha7 (by decide) e86_6
  have e87_7 := put_get ha7 (by rw [hz6.out]; decide)
  have Ha7 : Hid _ := ha7
  clear hz6 ha7 e16_6 e17_6 e15_6 e3_6 e81_6 e82_6 e83_6 e84_6 e85_6 e86_6
  refine wpAnyH_take (i := 7) (v := .bool true) rfl (by kernel_rfl) (by kernel_rfl) (by kernel_rfl) (fun _ _ _ h => h) (Or.inl ⟨by rfl, ?_⟩) hSW ?_
  · rintro w' k1; go_simp
  obtain ⟨a8, ha8⟩ : ∃ a8, a8 = a7.put (some 88) (.bool true) := ⟨_, rfl⟩
  refine wpAnyH_at ha8 ?_
  have hz8 : Hid (a8.tmps.size = 531) := put_size ha8 hz7.out
  have e16_8 := put_ne ha8 (by decide) e16_7
  have e17_8 := put_ne ha8 (by decide) e17_7
  have e15_8 := put_ne ha8 (by decide) e15_7
  have e3_8 := put_ne ha8 (by decide) e3_7
  have e81_8 := put_ne ha8 (by decide) e81_7
  have e82_8 := put_ne ha8 (by decide) e82_7
  have e83_8 := put_ne ha8 (by decide) e83_7
  have e84_8 := put_ne ha8 (by decide) e84_7
  have e85_8 := put_ne ha8 (by decide) e85_7
  have e86_8 := put_ne ha8 (by decide) e86_7
  have e87_8 := put_ne ha8 (by decide) e87_7
  have e88_8 := put_get ha8 (by rw [hz7.out]; decide)
  have Ha8 : Hid _ := ha8
  clear hz7 ha8 e16_7 e17_7 e15_7 e3_7 e81_7 e82_7 e83_7 e84_7 e85_7 e86_7 e87_7
  refine wpAnyH_take (i := 8) (v := .bool true) rfl (by kernel_rfl) (by kernel_rfl) (by kernel_rfl) (fun _ _ _ h => h) (Or.inl ⟨by rfl, ?_⟩) hSW ?_
  · rintro w' k1; go_simp
  obtain ⟨a9, ha9⟩ : ∃ a9, a9 = a8.put (some 89) (.bool true) := ⟨_, rfl⟩
  refine wpAnyH_at ha9 ?_
  have hz9 : Hid (a9.tmps.size = 531) := put_size ha9 hz8.out
  have e16_9 := put_ne ha9 (by decide) e16_8
  have e17_9 := put_ne ha9 (by decide) e17_8
  have e15_9 := put_ne ha9 (by decide) e15_8
  have e3_9 := put_ne ha9 (by decide) e3_8
  have e81_9 := put_ne ha9 (by decide) e81_8
  have e82_9 := put_ne ha9 (by decide) e82_8
  have e83_9 := put_ne ha9 (by decide) e83_8
  have e84_9 := put_ne ha9 (by decide) e84_8
  have e85_9 := put_ne ha9 (by decide) e85_8
  have e86_9 := put_ne ha9 (by decide) e86_8
  have e87_9 := put_ne ha9 (by decide) e87_8
  have e88_9 := put_ne ha9 (by decide) e88_8
  have e89_9 := put_get ha9 (by rw [hz8.out]; decide)
  have Ha9 : Hid _ := ha9
  clear hz8 ha9 e16_8 e17_8 e15_8 e3_8 e81_8 e82_8 e83_8 e84_8 e85_8 e86_8 e87_8 e88_8
  refine wpAnyH_take (i := 9) (v := undef) rfl (by kernel_rfl) (by kernel_rfl) (by kernel_rfl) (fun _ _ _ h => h) (Or.inr ⟨by simp [Region.wanted, yielded, e89_9, undef], rfl⟩) hSW ?_
  obtain ⟨a10, ha10⟩ : ∃ a10, a10 = a9.put (some 90) (undef) := ⟨_, rfl⟩
  refine wpAnyH_at ha10 ?_
  have hz10 : Hid (a10.tmps.size = 531) := put_size ha10 hz9.out
  have e16_10 := put_ne ha10 (by decide) e16_9
  have e17_10 := put_ne ha10 (by decide) e17_9
  have e15_10 := put_ne ha10 (by decide) e15_9
  have e3_10 := put_ne ha10 (by decide) e3_9
  have e81_10 := put_ne ha10 (by decide) e81_9
  have e82_10 := put_ne ha10 (by decide) e82_9
  have e83_10 := put_ne ha10 (by decide) e83_9
  have e84_10 := put_ne ha10 (by decide) e84_9
  have e85_10 := put_ne ha10 (by decide) e85_9
  have e86_10 := put_ne ha10 (by decide) e86_9
  have e87_10 := put_ne ha10 (by decide) e87_9
  have e88_10 := put_ne ha10 (by decide) e88_9
  have e89_10 := put_ne ha10 (by decide) e89_9
  have e90_10 := put_get ha10 (by rw [hz9.out]; decide)
  have Ha10 : Hid _ := ha10
  clear hz9 ha10 e16_9 e17_9 e15_9 e3_9 e81_9 e82_9 e83_9 e84_9 e85_9 e86_9 e87_9 e88_9 e89_9
  refine wpAnyH_take (i := 10) (v := undef) rfl (by kernel_rfl) (by kernel_rfl) (by kernel_rfl) (fun _ _ _ h => h) (Or.inr ⟨by simp [Region.wanted, yielded, e89_10, undef], rfl⟩) hSW ?_
  obtain ⟨a11, ha11⟩ : ∃ a11, a11 = a10.put (some 91) (undef) := ⟨_, rfl⟩
  refine wpAnyH_at ha11 ?_
  have hz11 : Hid (a11.tmps.size = 531) := put_size ha11 hz10.out
  have e16_11 := put_ne ha11 (by decide) e16_10
  have e17_11 := put_ne ha11 (by decide) e17_10
  have e15_11 := put_ne ha11 (by decide) e15_10
  have e3_11 := put_ne ha11 (by decide) e3_10
  have e81_11 := put_ne ha11 (by decide) e81_10
  have e82_11 := put_ne ha11 (by decide) e82_10
  have e83_11 := put_ne ha11 (by decide) e83_10
  have e84_11 := put_ne ha11 (by decide) e84_10
  have e85_11 := put_ne ha11 (by decide) e85_10
  have e86_11 := put_ne ha11 (by decide) e86_10
  have e87_11 := put_ne ha11 (by decide) e87_10
  have e88_11 := put_ne ha11 (by decide) e88_10
  have e89_11 := put_ne ha11 (by decide) e89_10
  have e90_11 := put_ne ha11 (by decide) e90_10
  have e91_11 := put_get ha11 (by rw [hz10.out]; decide)
  have Ha11 : Hid _ := ha11
  clear hz10 ha11 e16_10 e17_10 e15_10 e3_10 e81_10 e82_10 e83_10 e84_10 e85_10 e86_10 e87_10 e88_10 e89_10 e90_10
  refine wpAnyH_take (i := 11) (v := undef) rfl (by kernel_rfl) (by kernel_rfl) (by kernel_rfl) (fun _ _ _ h => h) (Or.inr ⟨by simp [Region.wanted, yielded, e89_11, undef], rfl⟩) hSW ?_
  obtain ⟨a12, ha12⟩ : ∃ a12, a12 = a11.put (some 92) (undef) := ⟨_, rfl⟩
  refine wpAnyH_at ha12 ?_
  have hz12 : Hid (a12.tmps.size = 531) := put_size ha12 hz11.out
  have e16_12 := put_ne ha12 (by decide) e16_11
  have e17_12 := put_ne ha12 (by decide) e17_11
  have e15_12 := put_ne ha12 (by decide) e15_11
  have e3_12 := put_ne ha12 (by decide) e3_11
  have e81_12 := put_ne ha12 (by decide) e81_11
  have e82_12 := put_ne ha12 (by decide) e82_11
  have e83_12 := put_ne ha12 (by decide) e83_11
  have e84_12 := put_ne ha12 (by decide) e84_11
  have e85_12 := put_ne ha12 (by decide) e85_11
  have e86_12 := put_ne ha12 (by decide) e86_11
  have e87_12 := put_ne ha12 (by decide) e87_11
  have e88_12 := put_ne ha12 (by decide) e88_11
  have e89_12 := put_ne ha12 (by decide) e89_11
  have e90_12 := put_ne ha12 (by decide) e90_11
  have e91_12 := put_ne ha12 (by decide) e91_11
  have e92_12 := put_get ha12 (by rw [hz11.out]; decide)
  have Ha12 : Hid _ := ha12
  clear hz11 ha12 e16_11 e17_11 e15_11 e3_11 e81_11 e82_11 e83_11 e84_11 e85_11 e86_11 e87_11 e88_11 e89_11 e90_11 e91_11
  refine wpAnyH_take (i := 12) (v := undef) rfl (by kernel_rfl) (by kernel_rfl) (by kernel_rfl) (fun _ _ _ h => h) (Or.inr ⟨by simp [Region.wanted, yielded, e89_12, undef], rfl⟩) hSW ?_
  obtain ⟨a13, ha13⟩ : ∃ a13, a13 = a12.put (some 93) (undef) := ⟨_, rfl⟩
  refine wpAnyH_at ha13 ?_
  have hz13 : Hid (a13.tmps.size = 531) := put_size ha13 hz12.out
  have e16_13 := put_ne ha13 (by decide) e16_12
  have e17_13 := put_ne ha13 (by decide) e17_12
  have e15_13 := put_ne ha13 (by decide) e15_12
  have e3_13 := put_ne ha13 (by decide) e3_12
  have e81_13 := put_ne ha13 (by decide) e81_12
  have e82_13 := put_ne ha13 (by decide) e82_12
  have e83_13 := put_ne ha13 (by decide) e83_12
  have e84_13 := put_ne ha13 (by decide) e84_12
  have e85_13 := put_ne ha13 (by decide) e85_12
  have e86_13 := put_ne ha13 (by decide) e86_12
  have e87_13 := put_ne ha13 (by decide) e87_12
  have e88_13 := put_ne ha13 (by decide) e88_12
  have e89_13 := put_ne ha13 (by decide) e89_12
  have e90_13 := put_ne ha13 (by decide) e90_12
  have e91_13 := put_ne ha13 (by decide) e91_12
  have e92_13 := put_ne ha13 (by decide) e92_12
  have e93_13 := put_get ha13 (by rw [hz12.out]; decide)
  have Ha13 : Hid _ := ha13
  clear hz12 ha13 e16_12 e17_12 e15_12 e3_12 e81_12 e82_12 e83_12 e84_12 e85_12 e86_12 e87_12 e88_12 e89_12 e90_12 e91_12 e92_12
  refine wpAnyH_take (i := 13) (v := undef) rfl (by kernel_rfl) (by kernel_rfl) (by kernel_rfl) (fun _ _ _ h => h) (Or.inr ⟨by simp [Region.wanted, yielded, e93_13, undef], rfl⟩) hSW ?_
  obtain ⟨a14, ha14⟩ : ∃ a14, a14 = a13.put (some 94) (undef) := ⟨_, rfl⟩
  refine wpAnyH_at ha14 ?_
  have hz14 : Hid (a14.tmps.size = 531) := put_size ha14 hz13.out
  have e16_14 := put_ne ha14 (by decide) e16_13
  have e17_14 := put_ne ha14 (by decide) e17_13
  have e15_14 := put_ne ha14 (by decide) e15_13
  have e3_14 := put_ne ha14 (by decide) e3_13
  have e81_14 := put_ne ha14 (by decide) e81_13
  have e82_14 := put_ne ha14 (by decide) e82_13
  have e83_14 := put_ne ha14 (by decide) e83_13
  have e84_14 := put_ne ha14 (by decide) e84_13
  have e85_14 := put_ne ha14 (by decide) e85_13
  have e86_14 := put_ne ha14 (by decide) e86_13
  have e87_14 := put_ne ha14 (by decide) e87_13
  have e88_14 := put_ne ha14 (by decide) e88_13
  have e89_14 := put_ne ha14 (by decide) e89_13
  have e90_14 := put_ne ha14 (by decide) e90_13
  have e91_14 := put_ne ha14 (by decide) e91_13
  have e92_14 := put_ne ha14 (by decide) e92_13
  have e93_14 := put_ne ha14 (by decide) e93_13
  have e94_14 := put_get ha14 (by rw [hz13.out]; decide)
  have Ha14 : Hid _ := ha14
  clear hz13 ha14 e16_13 e17_13 e15_13 e3_13 e81_13 e82_13 e83_13 e84_13 e85_13 e86_13 e87_13 e88_13 e89_13 e90_13 e91_13 e92_13 e93_13
  refine wpAnyH_take (i := 14) (v := undef) rfl (by kernel_rfl) (by kernel_rfl) (by kernel_rfl) (fun _ _ _ h => h) (Or.inr ⟨by simp [Region.wanted, yielded, e93_14, undef], rfl⟩) hSW ?_
  obtain ⟨a15, ha15⟩ : ∃ a15, a15 = a14.put (some 95) (undef) := ⟨_, rfl⟩
  refine wpAnyH_at ha15 ?_
  have hz15 : Hid (a15.tmps.size = 531) := put_size ha15 hz14.out
  have e16_15 := put_ne ha15 (by decide) e16_14
  have e17_15 := put_ne ha15 (by decide) e17_14
  have e15_15 := put_ne ha15 (by decide) e15_14
  have e3_15 := put_ne ha15 (by decide) e3_14
  have e81_15 := put_ne ha15 (by decide) e81_14
  have e82_15 := put_ne ha15 (by decide) e82_14
  have e83_15 := put_ne ha15 (by decide) e83_14
  have e84_15 := put_ne ha15 (by decide) e84_14
  have e85_15 := put_ne ha15 (by decide) e85_14
  have e86_15 := put_ne ha15 (by decide) e86_14
  have e87_15 := put_ne ha15 (by decide) e87_14
  have e88_15 := put_ne ha15 (by decide) e88_14
  have e89_15 := put_ne ha15 (by decide) e89_14
  have e90_15 := put_ne ha15 (by decide) e90_14
  have e91_15 := put_ne ha15 (by decide) e91_14
  have e92_15 := put_ne ha15 (by decide) e92_14
  have e93_15 := put_ne ha15 (by decide) e93_14
  have e94_15 := put_ne ha15 (by decide) e94_14
  have e95_15 := put_get ha15 (by rw [hz14.out]; decide)
  have Ha15 : Hid _ := ha15
  clear hz14 ha15 e16_14 e17_14 e15_14 e3_14 e81_14 e82_14 e83_14 e84_14 e85_14 e86_14 e87_14 e88_14 e89_14 e90_14 e91_14 e92_14 e93_14 e94_14
  refine wpAnyH_take (i := 15) (v := undef) rfl (by kernel_rfl) (by kernel_rfl) (by kernel_rfl) (fun _ _ _ h => h) (Or.inr ⟨by simp [Region.wanted, yielded, e93_15, undef], rfl⟩) hSW ?_
  obtain ⟨a16, ha16⟩ : ∃ a16, a16 = a15.put (some 96) (undef) := ⟨_, rfl⟩
  refine wpAnyH_at ha16 ?_
  have hz16 : Hid (a16.tmps.size = 531) := put_size ha16 hz15.out
  have e16_16 := put_ne ha16 (by decide) e16_15
  have e17_16 := put_ne ha16 (by decide) e17_15
  have e15_16 := put_ne ha16 (by decide) e15_15
  have e3_16 := put_ne ha16 (by decide) e3_15
  have e81_16 := put_ne ha16 (by decide) e81_15
  have e82_16 := put_ne ha16 (by decide) e82_15
  have e83_16 := put_ne ha16 (by decide) e83_15
  have e84_16 := put_ne ha16 (by decide) e84_15
  have e85_16 := put_ne ha16 (by decide) e85_15
  have e86_16 := put_ne ha16 (by decide) e86_15
  have e87_16 := put_ne ha16 (by decide) e87_15
  have e88_16 := put_ne ha16 (by decide) e88_15
  have e89_16 := put_ne ha16 (by decide) e89_15
  have e90_16 := put_ne ha16 (by decide) e90_15
  have e91_16 := put_ne ha16 (by decide) e91_15
  have e92_16 := put_ne ha16 (by decide) e92_15
  have e93_16 := put_ne ha16 (by decide) e93_15
  have e94_16 := put_ne ha16 (by decide) e94_15
  have e95_16 := put_ne ha16 (by decide) e95_15
  have e96_16 := put_get ha16 (by rw [hz15.out]; decide)
  have Ha16 : Hid _ := ha16
  clear hz15 ha16 e16_15 e17_15 e15_15 e3_15 e81_15 e82_15 e83_15 e84_15 e85_15 e86_15 e87_15 e88_15 e89_15 e90_15 e91_15 e92_15 e93_15 e94_15 e95_15
  refine wpAnyH_take (i := 16) (v := undef) rfl (by kernel_rfl) (by kernel_rfl) (by kernel_rfl) (fun _ _ _ h => h) (Or.inr ⟨by simp [Region.wanted, yielded, e93_16, undef], rfl⟩) hSW ?_
  obtain ⟨a17, ha17⟩ : ∃ a17, a17 = a16.put (some 97) (undef) := ⟨_, rfl⟩
  refine wpAnyH_at ha17 ?_
  have hz17 : Hid (a17.tmps.size = 531) := put_size ha17 hz16.out
  have e16_17 := put_ne ha17 (by decide) e16_16
  have e17_17 := put_ne ha17 (by decide) e17_16
  have e15_17 := put_ne ha17 (by decide) e15_16
  have e3_17 := put_ne ha17 (by decide) e3_16
  have e81_17 := put_ne ha17 (by decide) e81_16
  have e82_17 := put_ne ha17 (by decide) e82_16
  have e83_17 := put_ne ha17 (by decide) e83_16
  have e84_17 := put_ne ha17 (by decide) e84_16
  have e85_17 := put_ne ha17 (by decide) e85_16
  have e86_17 := put_ne ha17 (by decide) e86_16
  have e87_17 := put_ne ha17 (by decide) e87_16
  have e88_17 := put_ne ha17 (by decide) e88_16
  have e89_17 := put_ne ha17 (by decide) e89_16
  have e90_17 := put_ne ha17 (by decide) e90_16
  have e91_17 := put_ne ha17 (by decide) e91_16
  have e92_17 := put_ne ha17 (by decide) e92_16
  have e93_17 := put_ne ha17 (by decide) e93_16
  have e94_17 := put_ne ha17 (by decide) e94_16
  have e95_17 := put_ne ha17 (by decide) e95_16
  have e96_17 := put_ne ha17 (by decide) e96_16
  have e97_17 := put_get ha17 (by rw [hz16.out]; decide)
  have Ha17 : Hid _ := ha17
  clear hz16 ha17 e16_16 e17_16 e15_16 e3_16 e81_16 e82_16 e83_16 e84_16 e85_16 e86_16 e87_16 e88_16 e89_16 e90_16 e91_16 e92_16 e93_16 e94_16 e95_16 e96_16
  refine wpAnyH_take (i := 17) (v := undef) rfl (by kernel_rfl) (by kernel_rfl) (by kernel_rfl) (fun _ _ _ h => h) (Or.inr ⟨by simp [Region.wanted, yielded, e89_17, undef], rfl⟩) hSW ?_
  obtain ⟨a18, ha18⟩ : ∃ a18, a18 = a17.put (some 98) (undef) := ⟨_, rfl⟩
  refine wpAnyH_at ha18 ?_
  have hz18 : Hid (a18.tmps.size = 531) := put_size ha18 hz17.out
  have e16_18 := put_ne ha18 (by decide) e16_17
  have e17_18 := put_ne ha18 (by decide) e17_17
  have e15_18 := put_ne ha18 (by decide) e15_17
  have e3_18 := put_ne ha18 (by decide) e3_17
  have e81_18 := put_ne ha18 (by decide) e81_17
  have e82_18 := put_ne ha18 (by decide) e82_17
  have e83_18 := put_ne ha18 (by decide) e83_17
  have e84_18 := put_ne ha18 (by decide) e84_17
  have e85_18 := put_ne ha18 (by decide) e85_17
  have e86_18 := put_ne ha18 (by decide) e86_17
  have e87_18 := put_ne ha18 (by decide) e87_17
  have e88_18 := put_ne ha18 (by decide) e88_17
  have e89_18 := put_ne ha18 (by decide) e89_17
  have e90_18 := put_ne ha18 (by decide) e90_17
  have e91_18 := put_ne ha18 (by decide) e91_17
  have e92_18 := put_ne ha18 (by decide) e92_17
  have e93_18 := put_ne ha18 (by decide) e93_17
  have e94_18 := put_ne ha18 (by decide) e94_17
  have e95_18 := put_ne ha18 (by decide) e95_17
  have e96_18 := put_ne ha18 (by decide) e96_17
  have e97_18 := put_ne ha18 (by decide) e97_17
  have e98_18 := put_get ha18 (by rw [hz17.out]; decide)
  have Ha18 : Hid _ := ha18
  clear hz17 ha18 e16_17 e17_17 e15_17 e3_17 e81_17 e82_17 e83_17 e84_17 e85_17 e86_17 e87_17 e88_17 e89_17 e90_17 e91_17 e92_17 e93_17 e94_17 e95_17 e96_17 e97_17
  refine wpAnyH_take (i := 18) (v := undef) rfl (by kernel_rfl) (by kernel_rfl) (by kernel_rfl) (fun _ _ _ h => h) (Or.inr ⟨by simp [Region.wanted, yielded, e89_18, undef], rfl⟩) hSW ?_
  obtain ⟨a19, ha19⟩ : ∃ a19, a19 = a18.put (some 99) (undef) := ⟨_, rfl⟩
  refine wpAnyH_at ha19 ?_
  have hz19 : Hid (a19.tmps.size = 531) := put_size ha19 hz18.out
  have e16_19 := put_ne ha19 (by decide) e16_18
  have e17_19 := put_ne ha19 (by decide) e17_18
  have e15_19 := put_ne ha19 (by decide) e15_18
  have e3_19 := put_ne ha19 (by decide) e3_18
  have e81_19 := put_ne ha19 (by decide) e81_18
  have e82_19 := put_ne ha19 (by decide) e82_18
  have e83_19 := put_ne ha19 (by decide) e83_18
  have e84_19 := put_ne ha19 (by decide) e84_18
  have e85_19 := put_ne ha19 (by decide) e85_18
  have e86_19 := put_ne ha19 (by decide) e86_18
  have e87_19 := put_ne ha19 (by decide) e87_18
  have e88_19 := put_ne ha19 (by decide) e88_18
  have e89_19 := put_ne ha19 (by decide) e89_18
  have e90_19 := put_ne ha19 (by decide) e90_18
  have e91_19 := put_ne ha19 (by decide) e91_18
  have e92_19 := put_ne ha19 (by decide) e92_18
  have e93_19 := put_ne ha19 (by decide) e93_18
  have e94_19 := put_ne ha19 (by decide) e94_18
  have e95_19 := put_ne ha19 (by decide) e95_18
  have e96_19 := put_ne ha19 (by decide) e96_18
  have e97_19 := put_ne ha19 (by decide) e97_18
  have e98_19 := put_ne ha19 (by decide) e98_18
  have e99_19 := put_get ha19 (by rw [hz18.out]; decide)
  have Ha19 : Hid _ := ha19
  clear hz18 ha19 e16_18 e17_18 e15_18 e3_18 e81_18 e82_18 e83_18 e84_18 e85_18 e86_18 e87_18 e88_18 e89_18 e90_18 e91_18 e92_18 e93_18 e94_18 e95_18 e96_18 e97_18 e98_18
  refine wpAnyH_take (i := 19) (v := undef) rfl (by kernel_rfl) (by kernel_rfl) (by kernel_rfl) (fun _ _ _ h => h) (Or.inr ⟨by simp [Region.wanted, yielded, e99_19, undef], rfl⟩) hSW ?_
  obtain ⟨a20, ha20⟩ : ∃ a20, a20 = a19.put (some 100) (undef) := ⟨_, rfl⟩
  refine wpAnyH_at ha20 ?_
  have hz20 : Hid (a20.tmps.size = 531) := put_size ha20 hz19.out
  have e16_20 := put_ne ha20 (by decide) e16_19
  have e17_20 := put_ne ha20 (by decide) e17_19
  have e15_20 := put_ne ha20 (by decide) e15_19
  have e3_20 := put_ne ha20 (by decide) e3_19
  have e81_20 := put_ne ha20 (by decide) e81_19
  have e82_20 := put_ne ha20 (by decide) e82_19
  have e83_20 := put_ne ha20 (by decide) e83_19
  have e84_20 := put_ne ha20 (by decide) e84_19
  have e85_20 := put_ne ha20 (by decide) e85_19
  have e86_20 := put_ne ha20 (by decide) e86_19
  have e87_20 := put_ne ha20 (by decide) e87_19
  have e88_20 := put_ne ha20 (by decide) e88_19
  have e89_20 := put_ne ha20 (by decide) e89_19
  have e90_20 := put_ne ha20 (by decide) e90_19
  have e91_20 := put_ne ha20 (by decide) e91_19
  have e92_20 := put_ne ha20 (by decide) e92_19
  have e93_20 := put_ne ha20 (by decide) e93_19
  have e94_20 := put_ne ha20 (by decide) e94_19
  have e95_20 := put_ne ha20 (by decide) e95_19
  have e96_20 := put_ne ha20 (by decide) e96_19
  have e97_20 := put_ne ha20 (by decide) e97_19
  have e98_20 := put_ne ha20 (by decide) e98_19
  have e99_20 := put_ne ha20 (by decide) e99_19
  have e100_20 := put_get ha20 (by rw [hz19.out]; decide)
  have Ha20 : Hid _ := ha20
  clear hz19 ha20 e16_19 e17_19 e15_19 e3_19 e81_19 e82_19 e83_19 e84_19 e85_19 e86_19 e87_19 e88_19 e89_19 e90_19 e91_19 e92_19 e93_19 e94_19 e95_19 e96_19 e97_19 e98_19 e99_19
  refine wpAnyH_take (i := 20) (v := undef) rfl (by kernel_rfl) (by kernel_rfl) (by kernel_rfl) (fun _ _ _ h => h) (Or.inr ⟨by simp [Region.wanted, yielded, e99_20, undef], rfl⟩) hSW ?_
  obtain ⟨a21, ha21⟩ : ∃ a21, a21 = a20.put (some 101) (undef) := ⟨_, rfl⟩
  refine wpAnyH_at ha21 ?_
  have hz21 : Hid (a21.tmps.size = 531) := put_size ha21 hz20.out
  have e16_21 := put_ne ha21 (by decide) e16_20
  have e17_21 := put_ne ha21 (by decide) e17_20
  have e15_21 := put_ne ha21 (by decide) e15_20
  have e3_21 := put_ne ha21 (by decide) e3_20
  have e81_21 := put_ne ha21 (by decide) e81_20
  have e82_21 := put_ne ha21 (by decide) e82_20
  have e83_21 := put_ne ha21 (by decide) e83_20
  have e84_21 := put_ne ha21 (by decide) e84_20
  have e85_21 := put_ne ha21 (by decide) e85_20
  have e86_21 := put_ne ha21 (by decide) e86_20
  have e87_21 := put_ne ha21 (by decide) e87_20
  have e88_21 := put_ne ha21 (by decide) e88_20
  have e89_21 := put_ne ha21 (by decide) e89_20
  have e90_21 := put_ne ha21 (by decide) e90_20
  have e91_21 := put_ne ha21 (by decide) e91_20
  have e92_21 := put_ne ha21 (by decide) e92_20
  have e93_21 := put_ne ha21 (by decide) e93_20
  have e94_21 := put_ne ha21 (by decide) e94_20
  have e95_21 := put_ne ha21 (by decide) e95_20
  have e96_21 := put_ne ha21 (by decide) e96_20
  have e97_21 := put_ne ha21 (by decide) e97_20
  have e98_21 := put_ne ha21 (by decide) e98_20
  have e99_21 := put_ne ha21 (by decide) e99_20
  have e100_21 := put_ne ha21 (by decide) e100_20
  have e101_21 := put_get ha21 (by rw [hz20.out]; decide)
  have Ha21 : Hid _ := ha21
  clear hz20 ha21 e16_20 e17_20 e15_20 e3_20 e81_20 e82_20 e83_20 e84_20 e85_20 e86_20 e87_20 e88_20 e89_20 e90_20 e91_20 e92_20 e93_20 e94_20 e95_20 e96_20 e97_20 e98_20 e99_20 e100_20
  refine wpAnyH_take (i := 21) (v := undef) rfl (by kernel_rfl) (by kernel_rfl) (by kernel_rfl) (fun _ _ _ h => h) (Or.inr ⟨by simp [Region.wanted, yielded, e99_21, undef], rfl⟩) hSW ?_
  obtain ⟨a22, ha22⟩ : ∃ a22, a22 = a21.put (some 102) (undef) := ⟨_, rfl⟩
  refine wpAnyH_at ha22 ?_
  have hz22 : Hid (a22.tmps.size = 531) := put_size ha22 hz21.out
  have e16_22 := put_ne ha22 (by decide) e16_21
  have e17_22 := put_ne ha22 (by decide) e17_21
  have e15_22 := put_ne ha22 (by decide) e15_21
  have e3_22 := put_ne ha22 (by decide) e3_21
  have e81_22 := put_ne ha22 (by decide) e81_21
  have e82_22 := put_ne ha22 (by decide) e82_21
  have e83_22 := put_ne ha22 (by decide) e83_21
  have e84_22 := put_ne ha22 (by decide) e84_21
  have e85_22 := put_ne ha22 (by decide) e85_21
  have e86_22 := put_ne ha22 (by decide) e86_21
  have e87_22 := put_ne ha22 (by decide) e87_21
  have e88_22 := put_ne ha22 (by decide) e88_21
  have e89_22 := put_ne ha22 (by decide) e89_21
  have e90_22 := put_ne ha22 (by decide) e90_21
  have e91_22 := put_ne ha22 (by decide) e91_21
  have e92_22 := put_ne ha22 (by decide) e92_21
  have e93_22 := put_ne ha22 (by decide) e93_21
  have e94_22 := put_ne ha22 (by decide) e94_21
  have e95_22 := put_ne ha22 (by decide) e95_21
  have e96_22 := put_ne ha22 (by decide) e96_21
  have e97_22 := put_ne ha22 (by decide) e97_21
  have e98_22 := put_ne ha22 (by decide) e98_21
  have e99_22 := put_ne ha22 (by decide) e99_21
  have e100_22 := put_ne ha22 (by decide) e100_21
  have e101_22 := put_ne ha22 (by decide) e101_21
  have e102_22 := put_get ha22 (by rw [hz21.out]; decide)
  have Ha22 : Hid _ := ha22
  clear hz21 ha22 e16_21 e17_21 e15_21 e3_21 e81_21 e82_21 e83_21 e84_21 e85_21 e86_21 e87_21 e88_21 e89_21 e90_21 e91_21 e92_21 e93_21 e94_21 e95_21 e96_21 e97_21 e98_21 e99_21 e100_21 e101_21
  refine wpAnyH_take (i := 22) (v := undef) rfl (by kernel_rfl) (by kernel_rfl) (by kernel_rfl) (fun _ _ _ h => h) (Or.inr ⟨by simp [Region.wanted, yielded, e99_22, undef], rfl⟩) hSW ?_
  obtain ⟨a23, ha23⟩ : ∃ a23, a23 = a22.put (some 103) (undef) := ⟨_, rfl⟩
  refine wpAnyH_at ha23 ?_
  have hz23 : Hid (a23.tmps.size = 531) := put_size ha23 hz22.out
  have e16_23 := put_ne ha23 (by decide) e16_22
  have e17_23 := put_ne ha23 (by decide) e17_22
  have e15_23 := put_ne ha23 (by decide) e15_22
  have e3_23 := put_ne ha23 (by decide) e3_22
  have e81_23 := put_ne ha23 (by decide) e81_22
  have e82_23 := put_ne ha23 (by decide) e82_22
  have e83_23 := put_ne ha23 (by decide) e83_22
  have e84_23 := put_ne ha23 (by decide) e84_22
  have e85_23 := put_ne ha23 (by decide) e85_22
  have e86_23 := put_ne ha23 (by decide) e86_22
  have e87_23 := put_ne ha23 (by decide) e87_22
  have e88_23 := put_ne ha23 (by decide) e88_22
  have e89_23 := put_ne ha23 (by decide) e89_22
  have e90_23 := put_ne ha23 (by decide) e90_22
  have e91_23 := put_ne ha23 (by decide) e91_22
  have e92_23 := put_ne ha23 (by decide) e92_22
  have e93_23 := put_ne ha23 (by decide) e93_22
  have e94_23 := put_ne ha23 (by decide) e94_22
  have e95_23 := put_ne ha23 (by decide) e95_22
  have e96_23 := put_ne ha23 (by decide) e96_22
  have e97_23 := put_ne ha23 (by decide) e97_22
  have e98_23 := put_ne ha23 (by decide) e98_22
  have e99_23 := put_ne ha23 (by decide) e99_22
  have e100_23 := put_ne ha23 (by decide) e100_22
  have e101_23 := put_ne ha23 (by decide) e101_22
  have e102_23 := put_ne ha23 (by decide) e102_22
  have e103_23 := put_get ha23 (by rw [hz22.out]; decide)
  have Ha23 : Hid _ := ha23
  clear hz22 ha23 e16_22 e17_22 e15_22 e3_22 e81_22 e82_22 e83_22 e84_22 e85_22 e86_22 e87_22 e88_22 e89_22 e90_22 e91_22 e92_22 e93_22 e94_22 e95_22 e96_22 e97_22 e98_22 e99_22 e100_22 e101_22 e102_22
  refine wpAnyH_take (i := 23) (v := undef) rfl (by kernel_rfl) (by kernel_rfl) (by kernel_rfl) (fun _ _ _ h => h) (Or.inr ⟨by simp [Region.wanted, yielded, e89_23, undef], rfl⟩) hSW ?_
  obtain ⟨a24, ha24⟩ : ∃ a24, a24 = a23.put (some 104) (undef) := ⟨_, rfl⟩
  refine wpAnyH_at ha24 ?_
  have hz24 : Hid (a24.tmps.size = 531) := put_size ha24 hz23.out
  have e16_24 := put_ne ha24 (by decide) e16_23
  have e17_24 := put_ne ha24 (by decide) e17_23
  have e15_24 := put_ne ha24 (by decide) e15_23
  have e3_24 := put_ne ha24 (by decide) e3_23
  have e81_24 := put_ne ha24 (by decide) e81_23
  have e82_24 := put_ne ha24 (by decide) e82_23
  have e83_24 := put_ne ha24 (by decide) e83_23
  have e84_24 := put_ne ha24 (by decide) e84_23
  have e85_24 := put_ne ha24 (by decide) e85_23
  have e86_24 := put_ne ha24 (by decide) e86_23
  have e87_24 := put_ne ha24 (by decide) e87_23
  have e88_24 := put_ne ha24 (by decide) e88_23
  have e89_24 := put_ne ha24 (by decide) e89_23
  have e90_24 := put_ne ha24 (by decide) e90_23
  have e91_24 := put_ne ha24 (by decide) e91_23
  have e92_24 := put_ne ha24 (by decide) e92_23
  have e93_24 := put_ne ha24 (by decide) e93_23
  have e94_24 := put_ne ha24 (by decide) e94_23
  have e95_24 := put_ne ha24 (by decide) e95_23
  have e96_24 := put_ne ha24 (by decide) e96_23
  have e97_24 := put_ne ha24 (by decide) e97_23
  have e98_24 := put_ne ha24 (by decide) e98_23
  have e99_24 := put_ne ha24 (by decide) e99_23
  have e100_24 := put_ne ha24 (by decide) e100_23
  have e101_24 := put_ne ha24 (by decide) e101_23
  have e102_24 := put_ne ha24 (by decide) e102_23
  have e103_24 := put_ne ha24 (by decide) e103_23
  have e104_24 := put_get ha24 (by rw [hz23.out]; decide)
  have Ha24 : Hid _ := ha24
  clear hz23 ha24 e16_23 e17_23 e15_23 e3_23 e81_23 e82_23 e83_23 e84_23 e85_23 e86_23 e87_23 e88_23 e89_23 e90_23 e91_23 e92_23 e93_23 e94_23 e95_23 e96_23 e97_23 e98_23 e99_23 e100_23 e101_23 e102_23 e103_23
  refine wpAnyH_take (i := 24) (v := .bool true) rfl (by kernel_rfl) (by kernel_rfl) (by kernel_rfl) (fun _ _ _ h => h) (Or.inl ⟨by rfl, ?_⟩) hSW ?_
  · rintro w' k1; go_simp
  obtain ⟨a25, ha25⟩ : ∃ a25, a25 = a24.put (some 105) (.bool true) := ⟨_, rfl⟩
  refine wpAnyH_at ha25 ?_
  have hz25 : Hid (a25.tmps.size = 531) := put_size ha25 hz24.out
  have e16_25 := put_ne ha25 (by decide) e16_24
  have e17_25 := put_ne ha25 (by decide) e17_24
  have e15_25 := put_ne ha25 (by decide) e15_24
  have e3_25 := put_ne ha25 (by decide) e3_24
  have e81_25 := put_ne ha25 (by decide) e81_24
  have e82_25 := put_ne ha25 (by decide) e82_24
  have e83_25 := put_ne ha25 (by decide) e83_24
  have e84_25 := put_ne ha25 (by decide) e84_24
  have e85_25 := put_ne ha25 (by decide) e85_24
  have e86_25 := put_ne ha25 (by decide) e86_24
  have e87_25 := put_ne ha25 (by decide) e87_24
  have e88_25 := put_ne ha25 (by decide) e88_24
  have e89_25 := put_ne ha25 (by decide) e89_24
  have e90_25 := put_ne ha25 (by decide) e90_24
  have e91_25 := put_ne ha25 (by decide) e91_24
  have e92_25 := put_ne ha25 (by decide) e92_24
  have e93_25 := put_ne ha25 (by decide) e93_24
  have e94_25 := put_ne ha25 (by decide) e94_24
  have e95_25 := put_ne ha25 (by decide) e95_24
  have e96_25 := put_ne ha25 (by decide) e96_24
  have e97_25 := put_ne ha25 (by decide) e97_24
  have e98_25 := put_ne ha25 (by decide) e98_24
  have e99_25 := put_ne ha25 (by decide) e99_24
  have e100_25 := put_ne ha25 (by decide) e100_24
  have e101_25 := put_ne ha25 (by decide) e101_24
  have e102_25 := put_ne ha25 (by decide) e102_24
  have e103_25 := put_ne ha25 (by decide) e103_24
  have e104_25 := put_ne ha25 (by decide) e104_24
  have e105_25 := put_get ha25 (by rw [hz24.out]; decide)
  have Ha25 : Hid _ := ha25
  clear hz24 ha25 e16_24 e17_24 e15_24 e3_24 e81_24 e82_24 e83_24 e84_24 e85_24 e86_24 e87_24 e88_24 e89_24 e90_24 e91_24 e92_24 e93_24 e94_24 e95_24 e96_24 e97_24 e98_24 e99_24 e100_24 e101_24 e102_24 e103_24 e104_24
  refine wpAnyH_take (i := 25) (v := .pointer (some ⟨Bv, i, none⟩)) rfl (by kernel_rfl) (by kernel_rfl) (by kernel_rfl) (fun _ _ _ h => h) (Or.inl ⟨by rfl, ?_⟩) hSW ?_
  · rintro w' k1; go_simp
  obtain ⟨a26, ha26⟩ : ∃ a26, a26 = a25.put (some 106) (.pointer (some ⟨Bv, i, none⟩)) := ⟨_, rfl⟩
  refine wpAnyH_at ha26 ?_
  have hz26 : Hid (a26.tmps.size = 531) := put_size ha26 hz25.out
  have e16_26 := put_ne ha26 (by decide) e16_25
  have e17_26 := put_ne ha26 (by decide) e17_25
  have e15_26 := put_ne ha26 (by decide) e15_25
  have e3_26 := put_ne ha26 (by decide) e3_25
  have e81_26 := put_ne ha26 (by decide) e81_25
  have e82_26 := put_ne ha26 (by decide) e82_25
  have e83_26 := put_ne ha26 (by decide) e83_25
  have e84_26 := put_ne ha26 (by decide) e84_25
  have e85_26 := put_ne ha26 (by decide) e85_25
  have e86_26 := put_ne ha26 (by decide) e86_25
  have e87_26 := put_ne ha26 (by decide) e87_25
  have e88_26 := put_ne ha26 (by decide) e88_25
  have e89_26 := put_ne ha26 (by decide) e89_25
  have e90_26 := put_ne ha26 (by decide) e90_25
  have e91_26 := put_ne ha26 (by decide) e91_25
  have e92_26 := put_ne ha26 (by decide) e92_25
  have e93_26 := put_ne ha26 (by decide) e93_25
  have e94_26 := put_ne ha26 (by decide) e94_25
  have e95_26 := put_ne ha26 (by decide) e95_25
  have e96_26 := put_ne ha26 (by decide) e96_25
  have e97_26 := put_ne ha26 (by decide) e97_25
  have e98_26 := put_ne ha26 (by decide) e98_25
  have e99_26 := put_ne ha26 (by decide) e99_25
  have e100_26 := put_ne ha26 (by decide) e100_25
  have e101_26 := put_ne ha26 (by decide) e101_25
  have e102_26 := put_ne ha26 (by decide) e102_25
  have e103_26 := put_ne ha26 (by decide) e103_25
  have e104_26 := put_ne ha26 (by decide) e104_25
  have e105_26 := put_ne ha26 (by decide) e105_25
  have e106_26 := put_get ha26 (by rw [hz25.out]; decide)
  have Ha26 : Hid _ := ha26
  clear hz25 ha26 e16_25 e17_25 e15_25 e3_25 e81_25 e82_25 e83_25 e84_25 e85_25 e86_25 e87_25 e88_25 e89_25 e90_25 e91_25 e92_25 e93_25 e94_25 e95_25 e96_25 e97_25 e98_25 e99_25 e100_25 e101_25 e102_25 e103_25 e104_25 e105_25
  refine wpAnyH_ready (rs := [26]) (by kernel_rfl) (by simp) ?_
  refine AllReadyH.cons rfl (fun K hK => ?_) AllReadyH.nil
  go_simp
  have hS3 : (fun w' : World => w'.cell? ⟨Bz, 2, none⟩ = some (.slice (some ⟨Bv, 0, none⟩) oldN oldN) ) (wr.drew.setCell ⟨Bv, i, none⟩ (.bool true)) := (World.cell?_of_block (a := ⟨Bz, _, none⟩) (Below.heap_setCell wr.drew _ _ _ hne)).trans hSW
  refine hK.out _ _ hS3 (fun _ => ?_)
  refine wpAnyH_done (by kernel_rfl) ?_ _
  refine NoPanic.normal ?_
  refine hQ.out _ ?_
  rw [Ha26.out, Ha25.out, Ha24.out, Ha23.out, Ha22.out, Ha21.out, Ha20.out, Ha19.out, Ha18.out, Ha17.out, Ha16.out, Ha15.out, Ha14.out, Ha13.out, Ha12.out, Ha11.out, Ha10.out, Ha9.out, Ha8.out, Ha7.out, Ha6.out, Ha5.out, Ha4.out, Ha3.out, Ha2.out, Ha1.out]


set_option maxHeartbeats 4000000 in
set_option maxRecDepth 100000 in
theorem reg17b {wr : World} {Bz Bv oldN nx i mn mc : Nat} {mA : Option Addr} {vv : Value} {Q : Exit → Act → World → Prop} {a0 : Act} (hz0 : Hid (a0.tmps.size = 531)) (e16_0 : a0.tmps[16]? = some (.pointer (some ⟨Bz, 0, none⟩))) (e17_0 : a0.tmps[17]? = some (.int .i64 (i : Nat))) (e15_0 : a0.tmps[15]? = some (.int .i64 (nx : Nat))) (e3_0 : a0.tmps[3]? = some (.slice mA mn mc)) (hc1 : ¬ i < nx) (hc2 : ¬ nx < i) 
    (z2 : wr.drew.cell? ⟨Bz, 2, none⟩ = some (.slice (some ⟨Bv, 0, none⟩) oldN oldN)) (hi : i < oldN) (vc : wr.drew.cell? ⟨Bv, i, none⟩ = some vv) (vf : wr.drew.frozen? ⟨Bv, i, none⟩ = false) (hne : Bz ≠ Bv)
    (hQ : Hid (∀ (a' : Act), a' = ((((((((((((((((((((((((((a0.put (some 81) (.pointer (some ⟨Bz, 0, none⟩))).put (some 82) (.pointer (some ⟨Bz, 0, none⟩))).put (some 83) (.pointer (some ⟨Bz, 2, none⟩))).put (some 84) (.slice (some ⟨Bv, 0, none⟩) oldN oldN)).put (some 85) (.int .i64 (i : Nat))).put (some 86) (.int .i64 (i : Nat))).put (some 87) (.int .i64 (nx : Nat))).put (some 88) (.bool false)).put (some 89) (.bool false)).put (some 90) (.int .i64 (i : Nat))).put (some 91) (.int .i64 (nx : Nat))).put (some 92) (.bool false)).put (some 93) (.bool false)).put (some 94) (undef)).put (some 95) (undef)).put (some 96) (undef)).put (some 97) (undef)).put (some 98) (.bool false)).put (some 99) (.bool false)).put (some 100) (undef)).put (some 101) (undef)).put (some 102) (undef)).put (some 103) (undef)).put (some 104) (.bool false)).put (some 105) (.bool false)).put (some 106) (.pointer (some ⟨Bv, i, none⟩))) → Q .normal a' (wr.drew.setCell ⟨Bv, i, none⟩ (.bool false)))) :
    Code.wp Yba.prog (regOf 17 (bodyOf Yba.f3)) Q a0 wr := by
  conv => arg 2; whnf
  have hSW : (fun w' : World => w'.cell? ⟨Bz, 2, none⟩ = some (.slice (some ⟨Bv, 0, none⟩) oldN oldN) ) wr.drew := z2
  refine wp_region_noPanic ?_
  refine wp_region_held_drew (S := (fun w' : World => w'.cell? ⟨Bz, 2, none⟩ = some (.slice (some ⟨Bv, 0, none⟩) oldN oldN) )) (by kernel_rfl) hSW (fun _ => ?_)
  refine wpAnyH_take (i := 0) (v := .pointer (some ⟨Bz, 0, none⟩)) rfl (by kernel_rfl) (by kernel_rfl) (by kernel_rfl) (fun _ _ _ h => h) (Or.inl ⟨by rfl, ?_⟩) hSW ?_
  · rintro w' k1; go_simp
  obtain ⟨a1, ha1⟩ : ∃ a1, a1 = a0.put (some 81) (.pointer (some ⟨Bz, 0, none⟩)) := ⟨_, rfl⟩
  refine wpAnyH_at ha1 ?_
  have hz1 : Hid (a1.tmps.size = 531) := put_size ha1 hz0.out
  have e16_1 := put_ne ha1 (by decide) e16_0
  have e17_1 := put_ne ha1 (by decide) e17_0
  have e15_1 := put_ne ha1 (by decide) e15_0
  have e3_1 := put_ne ha1 (by decide) e3_0
  have e81_1 := put_get ha1 (by rw [hz0.out]; decide)
  have Ha1 : Hid _ := ha1
  clear hz0 ha1 e16_0 e17_0 e15_0 e3_0
  refine wpAnyH_take (i := 1) (v := .pointer (some ⟨Bz, 0, none⟩)) rfl (by kernel_rfl) (by kernel_rfl) (by kernel_rfl) (fun _ _ _ h => h) (Or.inl ⟨by rfl, ?_⟩) hSW ?_
  · rintro w' k1; go_simp
  obtain ⟨a2, ha2⟩ : ∃ a2, a2 = a1.put (some 82) (.pointer (some ⟨Bz, 0, none⟩)) := ⟨_, rfl⟩
  refine wpAnyH_at ha2 ?_
  have hz2 : Hid (a2.tmps.size = 531) := put_size ha2 hz1.out
  have e16_2 := put_ne ha2 (by decide) e16_1
  have e17_2 := put_ne ha2 (by decide) e17_1
  have e15_2 := put_ne ha2 (by decide) e15_1
  have e3_2 := put_ne ha2 (by decide) e3_1
  have e81_2 := put_ne ha2 (by decide) e81_1
  have e82_2 := put_get ha2 (by rw [hz1.out]; decide)
  have Ha2 : Hid _ := ha2
  clear hz1 ha2 e16_1 e17_1 e15_1 e3_1 e81_1
  refine wpAnyH_take (i := 2) (v := .pointer (some ⟨Bz, 2, none⟩)) rfl (by kernel_rfl) (by kernel_rfl) (by kernel_rfl) (fun _ _ _ h => h) (Or.inl ⟨by rfl, ?_⟩) hSW ?_
  · rintro w' k1; go_simp
  obtain ⟨a3, ha3⟩ : ∃ a3, a3 = a2.put (some 83) (.pointer (some ⟨Bz, 2, none⟩)) := ⟨_, rfl⟩
  refine wpAnyH_at ha3 ?_
  have hz3 : Hid (a3.tmps.size = 531) := put_size ha3 hz2.out
  have e16_3 := put_ne ha3 (by decide) e16_2
  have e17_3 := put_ne ha3 (by decide) e17_2
  have e15_3 := put_ne ha3 (by decide) e15_2
  have e3_3 := put_ne ha3 (by decide) e3_2
  have e81_3 := put_ne ha3 (by decide) e81_2
  have e82_3 := put_ne ha3 (by decide) e82_2
  have e83_3 := put_get ha3 (by rw [hz2.out]; decide)
  have Ha3 : Hid _ := ha3
  clear hz2 ha3 e16_2 e17_2 e15_2 e3_2 e81_2 e82_2
  refine wpAnyH_take (i := 3) (v := .slice (some ⟨Bv, 0, none⟩) oldN oldN) rfl (by kernel_rfl) (by kernel_rfl) (by kernel_rfl) (fun _ _ _ h => h) (Or.inl ⟨by rfl, ?_⟩) hSW ?_
  · rintro w' k1; go_simp
  obtain ⟨a4, ha4⟩ : ∃ a4, a4 = a3.put (some 84) (.slice (some ⟨Bv, 0, none⟩) oldN oldN) := ⟨_, rfl⟩
  refine wpAnyH_at ha4 ?_
  have hz4 : Hid (a4.tmps.size = 531) := put_size ha4 hz3.out
  have e16_4 := put_ne ha4 (by decide) e16_3
  have e17_4 := put_ne ha4 (by decide) e17_3
  have e15_4 := put_ne ha4 (by decide) e15_3
  have e3_4 := put_ne ha4 (by decide) e3_3
  have e81_4 := put_ne ha4 (by decide) e81_3
  have e82_4 := put_ne ha4 (by decide) e82_3
  have e83_4 := put_ne ha4 (by decide) e83_3
  have e84_4 := put_get ha4 (by rw [hz3.out]; decide)
  have Ha4 : Hid _ := ha4
  clear hz3 ha4 e16_3 e17_3 e15_3 e3_3 e81_3 e82_3 e83_3
  refine wpAnyH_take (i := 4) (v := .int .i64 (i : Nat)) rfl (by kernel_rfl) (by kernel_rfl) (by kernel_rfl) (fun _ _ _ h => h) (Or.inl ⟨by rfl, ?_⟩) hSW ?_
  · rintro w' k1; go_simp
  obtain ⟨a5, ha5⟩ : ∃ a5, a5 = a4.put (some 85) (.int .i64 (i : Nat)) := ⟨_, rfl⟩
  refine wpAnyH_at ha5 ?_
  have hz5 : Hid (a5.tmps.size = 531) := put_size ha5 hz4.out
  have e16_5 := put_ne ha5 (by decide) e16_4
  have e17_5 := put_ne ha5 (by decide) e17_4
  have e15_5 := put_ne ha5 (by decide) e15_4
  have e3_5 := put_ne ha5 (by decide) e3_4
  have e81_5 := put_ne ha5 (by decide) e81_4
  have e82_5 := put_ne ha5 (by decide) e82_4
  have e83_5 := put_ne ha5 (by decide) e83_4
  have e84_5 := put_ne ha5 (by decide) e84_4
  have e85_5 := put_get ha5 (by rw [hz4.out]; decide)
  have Ha5 : Hid _ := ha5
  clear hz4 ha5 e16_4 e17_4 e15_4 e3_4 e81_4 e82_4 e83_4 e84_4
  refine wpAnyH_take (i := 5) (v := .int .i64 (i : Nat)) rfl (by kernel_rfl) (by kernel_rfl) (by kernel_rfl) (fun _ _ _ h => h) (Or.inl ⟨by rfl, ?_⟩) hSW ?_
  · rintro w' k1; go_simp
  obtain ⟨a6, ha6⟩ : ∃ a6, a6 = a5.put (some 86) (.int .i64 (i : Nat)) := ⟨_, rfl⟩
  refine wpAnyH_at ha6 ?_
  have hz6 : Hid (a6.tmps.size = 531) := put_size ha6 hz5.out
  have e16_6 := put_ne ha6 (by decide) e16_5
  have e17_6 := put_ne ha6 (by decide) e17_5
  have e15_6 := put_ne ha6 (by decide) e15_5
  have e3_6 := put_ne ha6 (by decide) e3_5
  have e81_6 := put_ne ha6 (by decide) e81_5
  have e82_6 := put_ne ha6 (by decide) e82_5
  have e83_6 := put_ne ha6 (by decide) e83_5
  have e84_6 := put_ne ha6 (by decide) e84_5
  have e85_6 := put_ne ha6 (by decide) e85_5
  have e86_6 := put_get ha6 (by rw [hz5.out]; decide)
  have Ha6 : Hid _ := ha6
  clear hz5 ha6 e16_5 e17_5 e15_5 e3_5 e81_5 e82_5 e83_5 e84_5 e85_5
  refine wpAnyH_take (i := 6) (v := .int .i64 (nx : Nat)) rfl (by kernel_rfl) (by kernel_rfl) (by kernel_rfl) (fun _ _ _ h => h) (Or.inl ⟨by rfl, ?_⟩) hSW ?_
  · rintro w' k1; go_simp
  obtain ⟨a7, ha7⟩ : ∃ a7, a7 = a6.put (some 87) (.int .i64 (nx : Nat)) := ⟨_, rfl⟩
  refine wpAnyH_at ha7 ?_
  have hz7 : Hid (a7.tmps.size = 531) := put_size ha7 hz6.out
  have e16_7 := put_ne ha7 (by decide) e16_6
  have e17_7 := put_ne ha7 (by decide) e17_6
  have e15_7 := put_ne ha7 (by decide) e15_6
  have e3_7 := put_ne ha7 (by decide) e3_6
  have e81_7 := put_ne ha7 (by decide) e81_6
  have e82_7 := put_ne ha7 (by decide) e82_6
  have e83_7 := put_ne ha7 (by decide) e83_6
  have e84_7 := put_ne ha7 (by decide) e84_6
  have e85_7 := put_ne ha7 (by decide) e85_6
  have e86_7 := put_ne ha7 (by decide) e86_6
  have e87_7 := put_get ha7 (by rw [hz6.out]; decide)
  have Ha7 : Hid _ := ha7
  clear hz6 ha7 e16_6 e17_6 e15_6 e3_6 e81_6 e82_6 e83_6 e84_6 e85_6 e86_6
  refine wpAnyH_take (i := 7) (v := .bool false) rfl (by kernel_rfl) (by kernel_rfl) (by kernel_rfl) (fun _ _ _ h => h) (Or.inl ⟨by rfl, ?_⟩) hSW ?_
  · rintro w' k1; go_simp
  obtain ⟨a8, ha8⟩ : ∃ a8, a8 = a7.put (some 88) (.bool false) := ⟨_, rfl⟩
  refine wpAnyH_at ha8 ?_
  have hz8 : Hid (a8.tmps.size = 531) := put_size ha8 hz7.out
  have e16_8 := put_ne ha8 (by decide) e16_7
  have e17_8 := put_ne ha8 (by decide) e17_7
  have e15_8 := put_ne ha8 (by decide) e15_7
  have e3_8 := put_ne ha8 (by decide) e3_7
  have e81_8 := put_ne ha8 (by decide) e81_7
  have e82_8 := put_ne ha8 (by decide) e82_7
  have e83_8 := put_ne ha8 (by decide) e83_7
  have e84_8 := put_ne ha8 (by decide) e84_7
  have e85_8 := put_ne ha8 (by decide) e85_7
  have e86_8 := put_ne ha8 (by decide) e86_7
  have e87_8 := put_ne ha8 (by decide) e87_7
  have e88_8 := put_get ha8 (by rw [hz7.out]; decide)
  have Ha8 : Hid _ := ha8
  clear hz7 ha8 e16_7 e17_7 e15_7 e3_7 e81_7 e82_7 e83_7 e84_7 e85_7 e86_7 e87_7
  refine wpAnyH_take (i := 8) (v := .bool false) rfl (by kernel_rfl) (by kernel_rfl) (by kernel_rfl) (fun _ _ _ h => h) (Or.inl ⟨by rfl, ?_⟩) hSW ?_
  · rintro w' k1; go_simp
  obtain ⟨a9, ha9⟩ : ∃ a9, a9 = a8.put (some 89) (.bool false) := ⟨_, rfl⟩
  refine wpAnyH_at ha9 ?_
  have hz9 : Hid (a9.tmps.size = 531) := put_size ha9 hz8.out
  have e16_9 := put_ne ha9 (by decide) e16_8
  have e17_9 := put_ne ha9 (by decide) e17_8
  have e15_9 := put_ne ha9 (by decide) e15_8
  have e3_9 := put_ne ha9 (by decide) e3_8
  have e81_9 := put_ne ha9 (by decide) e81_8
  have e82_9 := put_ne ha9 (by decide) e82_8
  have e83_9 := put_ne ha9 (by decide) e83_8
  have e84_9 := put_ne ha9 (by decide) e84_8
  have e85_9 := put_ne ha9 (by decide) e85_8
  have e86_9 := put_ne ha9 (by decide) e86_8
  have e87_9 := put_ne ha9 (by decide) e87_8
  have e88_9 := put_ne ha9 (by decide) e88_8
  have e89_9 := put_get ha9 (by rw [hz8.out]; decide)
  have Ha9 : Hid _ := ha9
  clear hz8 ha9 e16_8 e17_8 e15_8 e3_8 e81_8 e82_8 e83_8 e84_8 e85_8 e86_8 e87_8 e88_8
  refine wpAnyH_take (i := 9) (v := .int .i64 (i : Nat)) rfl (by kernel_rfl) (by kernel_rfl) (by kernel_rfl) (fun _ _ _ h => h) (Or.inl ⟨by simp [Region.wanted, yielded, e89_9], ?_⟩) hSW ?_
  · rintro w' k1; go_simp
  obtain ⟨a10, ha10⟩ : ∃ a10, a10 = a9.put (some 90) (.int .i64 (i : Nat)) := ⟨_, rfl⟩
  refine wpAnyH_at ha10 ?_
  have hz10 : Hid (a10.tmps.size = 531) := put_size ha10 hz9.out
  have e16_10 := put_ne ha10 (by decide) e16_9
  have e17_10 := put_ne ha10 (by decide) e17_9
  have e15_10 := put_ne ha10 (by decide) e15_9
  have e3_10 := put_ne ha10 (by decide) e3_9
  have e81_10 := put_ne ha10 (by decide) e81_9
  have e82_10 := put_ne ha10 (by decide) e82_9
  have e83_10 := put_ne ha10 (by decide) e83_9
  have e84_10 := put_ne ha10 (by decide) e84_9
  have e85_10 := put_ne ha10 (by decide) e85_9
  have e86_10 := put_ne ha10 (by decide) e86_9
  have e87_10 := put_ne ha10 (by decide) e87_9
  have e88_10 := put_ne ha10 (by decide) e88_9
  have e89_10 := put_ne ha10 (by decide) e89_9
  have e90_10 := put_get ha10 (by rw [hz9.out]; decide)
  have Ha10 : Hid _ := ha10
  clear hz9 ha10 e16_9 e17_9 e15_9 e3_9 e81_9 e82_9 e83_9 e84_9 e85_9 e86_9 e87_9 e88_9 e89_9
  refine wpAnyH_take (i := 10) (v := .int .i64 (nx : Nat)) rfl (by kernel_rfl) (by kernel_rfl) (by kernel_rfl) (fun _ _ _ h => h) (Or.inl ⟨by simp [Region.wanted, yielded, e89_10], ?_⟩) hSW ?_
  · rintro w' k1; go_simp
  obtain ⟨a11, ha11⟩ : ∃ a11, a11 = a10.put (some 91) (.int .i64 (nx : Nat)) := ⟨_, rfl⟩
  refine wpAnyH_at ha11 ?_
  have hz11 : Hid (a11.tmps.size = 531) := put_size ha11 hz10.out
  have e16_11 := put_ne ha11 (by decide) e16_10
  have e17_11 := put_ne ha11 (by decide) e17_10
  have e15_11 := put_ne ha11 (by decide) e15_10
  have e3_11 := put_ne ha11 (by decide) e3_10
  have e81_11 := put_ne ha11 (by decide) e81_10
  have e82_11 := put_ne ha11 (by decide) e82_10
  have e83_11 := put_ne ha11 (by decide) e83_10
  have e84_11 := put_ne ha11 (by decide) e84_10
  have e85_11 := put_ne ha11 (by decide) e85_10
  have e86_11 := put_ne ha11 (by decide) e86_10
  have e87_11 := put_ne ha11 (by decide) e87_10
  have e88_11 := put_ne ha11 (by decide) e88_10
  have e89_11 := put_ne ha11 (by decide) e89_10
  have e90_11 := put_ne ha11 (by decide) e90_10
  have e91_11 := put_get ha11 (by rw [hz10.out]; decide)
  have Ha11 : Hid _ := ha11
  clear hz10 ha11 e16_10 e17_10 e15_10 e3_10 e81_10 e82_10 e83_10 e84_10 e85_10 e86_10 e87_10 e88_10 e89_10 e90_10
  refine wpAnyH_take (i := 11) (v := .bool false) rfl (by kernel_rfl) (by kernel_rfl) (by kernel_rfl) (fun _ _ _ h => h) (Or.inl ⟨by simp [Region.wanted, yielded, e89_11], ?_⟩) hSW ?_
  · rintro w' k1; go_simp
  obtain ⟨a12, ha12⟩ : ∃ a12, a12 = a11.put (some 92) (.bool false) := ⟨_, rfl⟩
  refine wpAnyH_at ha12 ?_
  have hz12 : Hid (a12.tmps.size = 531) := put_size ha12 hz11.out
  have e16_12 := put_ne ha12 (by decide) e16_11
  have e17_12 := put_ne ha12 (by decide) e17_11
  have e15_12 := put_ne ha12 (by decide) e15_11
  have e3_12 := put_ne ha12 (by decide) e3_11
  have e81_12 := put_ne ha12 (by decide) e81_11
  have e82_12 := put_ne ha12 (by decide) e82_11
  have e83_12 := put_ne ha12 (by decide) e83_11
  have e84_12 := put_ne ha12 (by decide) e84_11
  have e85_12 := put_ne ha12 (by decide) e85_11
  have e86_12 := put_ne ha12 (by decide) e86_11
  have e87_12 := put_ne ha12 (by decide) e87_11
  have e88_12 := put_ne ha12 (by decide) e88_11
  have e89_12 := put_ne ha12 (by decide) e89_11
  have e90_12 := put_ne ha12 (by decide) e90_11
  have e91_12 := put_ne ha12 (by decide) e91_11
  have e92_12 := put_get ha12 (by rw [hz11.out]; decide)
  have Ha12 : Hid _ := ha12
  clear hz11 ha12 e16_11 e17_11 e15_11 e3_11 e81_11 e82_11 e83_11 e84_11 e85_11 e86_11 e87_11 e88_11 e89_11 e90_11 e91_11
  refine wpAnyH_take (i := 12) (v := .bool false) rfl (by kernel_rfl) (by kernel_rfl) (by kernel_rfl) (fun _ _ _ h => h) (Or.inl ⟨by simp [Region.wanted, yielded, e89_12], ?_⟩) hSW ?_
  · rintro w' k1; go_simp
  obtain ⟨a13, ha13⟩ : ∃ a13, a13 = a12.put (some 93) (.bool false) := ⟨_, rfl⟩
  refine wpAnyH_at ha13 ?_
  have hz13 : Hid (a13.tmps.size = 531) := put_size ha13 hz12.out
  have e16_13 := put_ne ha13 (by decide) e16_12
  have e17_13 := put_ne ha13 (by decide) e17_12
  have e15_13 := put_ne ha13 (by decide) e15_12
  have e3_13 := put_ne ha13 (by decide) e3_12
  have e81_13 := put_ne ha13 (by decide) e81_12
  have e82_13 := put_ne ha13 (by decide) e82_12
  have e83_13 := put_ne ha13 (by decide) e83_12
  have e84_13 := put_ne ha13 (by decide) e84_12
  have e85_13 := put_ne ha13 (by decide) e85_12
  have e86_13 := put_ne ha13 (by decide) e86_12
  have e87_13 := put_ne ha13 (by decide) e87_12
  have e88_13 := put_ne ha13 (by decide) e88_12
  have e89_13 := put_ne ha13 (by decide) e89_12
  have e90_13 := put_ne ha13 (by decide) e90_12
  have e91_13 := put_ne ha13 (by decide) e91_12
  have e92_13 := put_ne ha13 (by decide) e92_12
  have e93_13 := put_get ha13 (by rw [hz12.out]; decide)
  have Ha13 : Hid _ := ha13
  clear hz12 ha13 e16_12 e17_12 e15_12 e3_12 e81_12 e82_12 e83_12 e84_12 e85_12 e86_12 e87_12 e88_12 e89_12 e90_12 e91_12 e92_12
  refine wpAnyH_take (i := 13) (v := undef) rfl (by kernel_rfl) (by kernel_rfl) (by kernel_rfl) (fun _ _ _ h => h) (Or.inr ⟨by simp [Region.wanted, yielded, e93_13, undef], rfl⟩) hSW ?_
  obtain ⟨a14, ha14⟩ : ∃ a14, a14 = a13.put (some 94) (undef) := ⟨_, rfl⟩
  refine wpAnyH_at ha14 ?_
  have hz14 : Hid (a14.tmps.size = 531) := put_size ha14 hz13.out
  have e16_14 := put_ne ha14 (by decide) e16_13
  have e17_14 := put_ne ha14 (by decide) e17_13
  have e15_14 := put_ne ha14 (by decide) e15_13
  have e3_14 := put_ne ha14 (by decide) e3_13
  have e81_14 := put_ne ha14 (by decide) e81_13
  have e82_14 := put_ne ha14 (by decide) e82_13
  have e83_14 := put_ne ha14 (by decide) e83_13
  have e84_14 := put_ne ha14 (by decide) e84_13
  have e85_14 := put_ne ha14 (by decide) e85_13
  have e86_14 := put_ne ha14 (by decide) e86_13
  have e87_14 := put_ne ha14 (by decide) e87_13
  have e88_14 := put_ne ha14 (by decide) e88_13
  have e89_14 := put_ne ha14 (by decide) e89_13
  have e90_14 := put_ne ha14 (by decide) e90_13
  have e91_14 := put_ne ha14 (by decide) e91_13
  have e92_14 := put_ne ha14 (by decide) e92_13
  have e93_14 := put_ne ha14 (by decide) e93_13
  have e94_14 := put_get ha14 (by rw [hz13.out]; decide)
  have Ha14 : Hid _ := ha14
  clear hz13 ha14 e16_13 e17_13 e15_13 e3_13 e81_13 e82_13 e83_13 e84_13 e85_13 e86_13 e87_13 e88_13 e89_13 e90_13 e91_13 e92_13 e93_13
  refine wpAnyH_take (i := 14) (v := undef) rfl (by kernel_rfl) (by kernel_rfl) (by kernel_rfl) (fun _ _ _ h => h) (Or.inr ⟨by simp [Region.wanted, yielded, e93_14, undef], rfl⟩) hSW ?_
  obtain ⟨a15, ha15⟩ : ∃ a15, a15 = a14.put (some 95) (undef) := ⟨_, rfl⟩
  refine wpAnyH_at ha15 ?_
  have hz15 : Hid (a15.tmps.size = 531) := put_size ha15 hz14.out
  have e16_15 := put_ne ha15 (by decide) e16_14
  have e17_15 := put_ne ha15 (by decide) e17_14
  have e15_15 := put_ne ha15 (by decide) e15_14
  have e3_15 := put_ne ha15 (by decide) e3_14
  have e81_15 := put_ne ha15 (by decide) e81_14
  have e82_15 := put_ne ha15 (by decide) e82_14
  have e83_15 := put_ne ha15 (by decide) e83_14
  have e84_15 := put_ne ha15 (by decide) e84_14
  have e85_15 := put_ne ha15 (by decide) e85_14
  have e86_15 := put_ne ha15 (by decide) e86_14
  have e87_15 := put_ne ha15 (by decide) e87_14
  have e88_15 := put_ne ha15 (by decide) e88_14
  have e89_15 := put_ne ha15 (by decide) e89_14
  have e90_15 := put_ne ha15 (by decide) e90_14
  have e91_15 := put_ne ha15 (by decide) e91_14
  have e92_15 := put_ne ha15 (by decide) e92_14
  have e93_15 := put_ne ha15 (by decide) e93_14
  have e94_15 := put_ne ha15 (by decide) e94_14
  have e95_15 := put_get ha15 (by rw [hz14.out]; decide)
  have Ha15 : Hid _ := ha15
  clear hz14 ha15 e16_14 e17_14 e15_14 e3_14 e81_14 e82_14 e83_14 e84_14 e85_14 e86_14 e87_14 e88_14 e89_14 e90_14 e91_14 e92_14 e93_14 e94_14
  refine wpAnyH_take (i := 15) (v := undef) rfl (by kernel_rfl) (by kernel_rfl) (by kernel_rfl) (fun _ _ _ h => h) (Or.inr ⟨by simp [Region.wanted, yielded, e93_15, undef], rfl⟩) hSW ?_
  obtain ⟨a16, ha16⟩ : ∃ a16, a16 = a15.put (some 96) (undef) := ⟨_, rfl⟩
  refine wpAnyH_at ha16 ?_
  have hz16 : Hid (a16.tmps.size = 531) := put_size ha16 hz15.out
  have e16_16 := put_ne ha16 (by decide) e16_15
  have e17_16 := put_ne ha16 (by decide) e17_15
  have e15_16 := put_ne ha16 (by decide) e15_15
  have e3_16 := put_ne ha16 (by decide) e3_15
  have e81_16 := put_ne ha16 (by decide) e81_15
  have e82_16 := put_ne ha16 (by decide) e82_15
  have e83_16 := put_ne ha16 (by decide) e83_15
  have e84_16 := put_ne ha16 (by decide) e84_15
  have e85_16 := put_ne ha16 (by decide) e85_15
  have e86_16 := put_ne ha16 (by decide) e86_15
  have e87_16 := put_ne ha16 (by decide) e87_15
  have e88_16 := put_ne ha16 (by decide) e88_15
  have e89_16 := put_ne ha16 (by decide) e89_15
  have e90_16 := put_ne ha16 (by decide) e90_15
  have e91_16 := put_ne ha16 (by decide) e91_15
  have e92_16 := put_ne ha16 (by decide) e92_15
  have e93_16 := put_ne ha16 (by decide) e93_15
  have e94_16 := put_ne ha16 (by decide) e94_15
  have e95_16 := put_ne ha16 (by decide) e95_15
  have e96_16 := put_get ha16 (by rw [hz15.out]; decide)
  have Ha16 : Hid _ := ha16
  clear hz15 ha16 e16_15 e17_15 e15_15 e3_15 e81_15 e82_15 e83_15 e84_15 e85_15 e86_15 e87_15 e88_15 e89_15 e90_15 e91_15 e92_15 e93_15 e94_15 e95_15
  refine wpAnyH_take (i := 16) (v := undef) rfl (by kernel_rfl) (by kernel_rfl) (by kernel_rfl) (fun _ _ _ h => h) (Or.inr ⟨by simp [Region.wanted, yielded, e93_16, undef], rfl⟩) hSW ?_
  obtain ⟨a17, ha17⟩ : ∃ a17, a17 = a16.put (some 97) (undef) := ⟨_, rfl⟩
  refine wpAnyH_at ha17 ?_
  have hz17 : Hid (a17.tmps.size = 531) := put_size ha17 hz16.out
  have e16_17 := put_ne ha17 (by decide) e16_16
  have e17_17 := put_ne ha17 (by decide) e17_16
  have e15_17 := put_ne ha17 (by decide) e15_16
  have e3_17 := put_ne ha17 (by decide) e3_16
  have e81_17 := put_ne ha17 (by decide) e81_16
  have e82_17 := put_ne ha17 (by decide) e82_16
  have e83_17 := put_ne ha17 (by decide) e83_16
  have e84_17 := put_ne ha17 (by decide) e84_16
  have e85_17 := put_ne ha17 (by decide) e85_16
  have e86_17 := put_ne ha17 (by decide) e86_16
  have e87_17 := put_ne ha17 (by decide) e87_16
  have e88_17 := put_ne ha17 (by decide) e88_16
  have e89_17 := put_ne ha17 (by decide) e89_16
  have e90_17 := put_ne ha17 (by decide) e90_16
  have e91_17 := put_ne ha17 (by decide) e91_16
  have e92_17 := put_ne ha17 (by decide) e92_16
  have e93_17 := put_ne ha17 (by decide) e93_16
  have e94_17 := put_ne ha17 (by decide) e94_16
  have e95_17 := put_ne ha17 (by decide) e95_16
  have e96_17 := put_ne ha17 (by decide) e96_16
  have e97_17 := put_get ha17 (by rw [hz16.out]; decide)
  have Ha17 : Hid _ := ha17
  clear hz16 ha17 e16_16 e17_16 e15_16 e3_16 e81_16 e82_16 e83_16 e84_16 e85_16 e86_16 e87_16 e88_16 e89_16 e90_16 e91_16 e92_16 e93_16 e94_16 e95_16 e96_16
  refine wpAnyH_take (i := 17) (v := .bool false) rfl (by kernel_rfl) (by kernel_rfl) (by kernel_rfl) (fun _ _ _ h => h) (Or.inl ⟨by simp [Region.wanted, yielded, e89_17], ?_⟩) hSW ?_
  · rintro w' k1; go_simp
  obtain ⟨a18, ha18⟩ : ∃ a18, a18 = a17.put (some 98) (.bool false) := ⟨_, rfl⟩
  refine wpAnyH_at ha18 ?_
  have hz18 : Hid (a18.tmps.size = 531) := put_size ha18 hz17.out
  have e16_18 := put_ne ha18 (by decide) e16_17
  have e17_18 := put_ne ha18 (by decide) e17_17
  have e15_18 := put_ne ha18 (by decide) e15_17
  have e3_18 := put_ne ha18 (by decide) e3_17
  have e81_18 := put_ne ha18 (by decide) e81_17
  have e82_18 := put_ne ha18 (by decide) e82_17
  have e83_18 := put_ne ha18 (by decide) e83_17
  have e84_18 := put_ne ha18 (by decide) e84_17
  have e85_18 := put_ne ha18 (by decide) e85_17
  have e86_18 := put_ne ha18 (by decide) e86_17
  have e87_18 := put_ne ha18 (by decide) e87_17
  have e88_18 := put_ne ha18 (by decide) e88_17
  have e89_18 := put_ne ha18 (by decide) e89_17
  have e90_18 := put_ne ha18 (by decide) e90_17
  have e91_18 := put_ne ha18 (by decide) e91_17
  have e92_18 := put_ne ha18 (by decide) e92_17
  have e93_18 := put_ne ha18 (by decide) e93_17
  have e94_18 := put_ne ha18 (by decide) e94_17
  have e95_18 := put_ne ha18 (by decide) e95_17
  have e96_18 := put_ne ha18 (by decide) e96_17
  have e97_18 := put_ne ha18 (by decide) e97_17
  have e98_18 := put_get ha18 (by rw [hz17.out]; decide)
  have Ha18 : Hid _ := ha18
  clear hz17 ha18 e16_17 e17_17 e15_17 e3_17 e81_17 e82_17 e83_17 e84_17 e85_17 e86_17 e87_17 e88_17 e89_17 e90_17 e91_17 e92_17 e93_17 e94_17 e95_17 e96_17 e97_17
  refine wpAnyH_take (i := 18) (v := .bool false) rfl (by kernel_rfl) (by kernel_rfl) (by kernel_rfl) (fun _ _ _ h => h) (Or.inl ⟨by simp [Region.wanted, yielded, e89_18], ?_⟩) hSW ?_
  · rintro w' k1; go_simp
  obtain ⟨a19, ha19⟩ : ∃ a19, a19 = a18.put (some 99) (.bool false) := ⟨_, rfl⟩
  refine wpAnyH_at ha19 ?_
  have hz19 : Hid (a19.tmps.size = 531) := put_size ha19 hz18.out
  have e16_19 := put_ne ha19 (by decide) e16_18
  have e17_19 := put_ne ha19 (by decide) e17_18
  have e15_19 := put_ne ha19 (by decide) e15_18
  have e3_19 := put_ne ha19 (by decide) e3_18
  have e81_19 := put_ne ha19 (by decide) e81_18
  have e82_19 := put_ne ha19 (by decide) e82_18
  have e83_19 := put_ne ha19 (by decide) e83_18
  have e84_19 := put_ne ha19 (by decide) e84_18
  have e85_19 := put_ne ha19 (by decide) e85_18
  have e86_19 := put_ne ha19 (by decide) e86_18
  have e87_19 := put_ne ha19 (by decide) e87_18
  have e88_19 := put_ne ha19 (by decide) e88_18
  have e89_19 := put_ne ha19 (by decide) e89_18
  have e90_19 := put_ne ha19 (by decide) e90_18
  have e91_19 := put_ne ha19 (by decide) e91_18
  have e92_19 := put_ne ha19 (by decide) e92_18
  have e93_19 := put_ne ha19 (by decide) e93_18
  have e94_19 := put_ne ha19 (by decide) e94_18
  have e95_19 := put_ne ha19 (by decide) e95_18
  have e96_19 := put_ne ha19 (by decide) e96_18
  have e97_19 := put_ne ha19 (by decide) e97_18
  have e98_19 := put_ne ha19 (by decide) e98_18
  have e99_19 := put_get ha19 (by rw [hz18.out]; decide)
  have Ha19 : Hid _ := ha19
  clear hz18 ha19 e16_18 e17_18 e15_18 e3_18 e81_18 e82_18 e83_18 e84_18 e85_18 e86_18 e87_18 e88_18 e89_18 e90_18 e91_18 e92_18 e93_18 e94_18 e95_18 e96_18 e97_18 e98_18
  refine wpAnyH_take (i := 19) (v := undef) rfl (by kernel_rfl) (by kernel_rfl) (by kernel_rfl) (fun _ _ _ h => h) (Or.inr ⟨by simp [Region.wanted, yielded, e99_19, undef], rfl⟩) hSW ?_
  obtain ⟨a20, ha20⟩ : ∃ a20, a20 = a19.put (some 100) (undef) := ⟨_, rfl⟩
  refine wpAnyH_at ha20 ?_
  have hz20 : Hid (a20.tmps.size = 531) := put_size ha20 hz19.out
  have e16_20 := put_ne ha20 (by decide) e16_19
  have e17_20 := put_ne ha20 (by decide) e17_19
  have e15_20 := put_ne ha20 (by decide) e15_19
  have e3_20 := put_ne ha20 (by decide) e3_19
  have e81_20 := put_ne ha20 (by decide) e81_19
  have e82_20 := put_ne ha20 (by decide) e82_19
  have e83_20 := put_ne ha20 (by decide) e83_19
  have e84_20 := put_ne ha20 (by decide) e84_19
  have e85_20 := put_ne ha20 (by decide) e85_19
  have e86_20 := put_ne ha20 (by decide) e86_19
  have e87_20 := put_ne ha20 (by decide) e87_19
  have e88_20 := put_ne ha20 (by decide) e88_19
  have e89_20 := put_ne ha20 (by decide) e89_19
  have e90_20 := put_ne ha20 (by decide) e90_19
  have e91_20 := put_ne ha20 (by decide) e91_19
  have e92_20 := put_ne ha20 (by decide) e92_19
  have e93_20 := put_ne ha20 (by decide) e93_19
  have e94_20 := put_ne ha20 (by decide) e94_19
  have e95_20 := put_ne ha20 (by decide) e95_19
  have e96_20 := put_ne ha20 (by decide) e96_19
  have e97_20 := put_ne ha20 (by decide) e97_19
  have e98_20 := put_ne ha20 (by decide) e98_19
  have e99_20 := put_ne ha20 (by decide) e99_19
  have e100_20 := put_get ha20 (by rw [hz19.out]; decide)
  have Ha20 : Hid _ := ha20
  clear hz19 ha20 e16_19 e17_19 e15_19 e3_19 e81_19 e82_19 e83_19 e84_19 e85_19 e86_19 e87_19 e88_19 e89_19 e90_19 e91_19 e92_19 e93_19 e94_19 e95_19 e96_19 e97_19 e98_19 e99_19
  refine wpAnyH_take (i := 20) (v := undef) rfl (by kernel_rfl) (by kernel_rfl) (by kernel_rfl) (fun _ _ _ h => h) (Or.inr ⟨by simp [Region.wanted, yielded, e99_20, undef], rfl⟩) hSW ?_
  obtain ⟨a21, ha21⟩ : ∃ a21, a21 = a20.put (some 101) (undef) := ⟨_, rfl⟩
  refine wpAnyH_at ha21 ?_
  have hz21 : Hid (a21.tmps.size = 531) := put_size ha21 hz20.out
  have e16_21 := put_ne ha21 (by decide) e16_20
  have e17_21 := put_ne ha21 (by decide) e17_20
  have e15_21 := put_ne ha21 (by decide) e15_20
  have e3_21 := put_ne ha21 (by decide) e3_20
  have e81_21 := put_ne ha21 (by decide) e81_20
  have e82_21 := put_ne ha21 (by decide) e82_20
  have e83_21 := put_ne ha21 (by decide) e83_20
  have e84_21 := put_ne ha21 (by decide) e84_20
  have e85_21 := put_ne ha21 (by decide) e85_20
  have e86_21 := put_ne ha21 (by decide) e86_20
  have e87_21 := put_ne ha21 (by decide) e87_20
  have e88_21 := put_ne ha21 (by decide) e88_20
  have e89_21 := put_ne ha21 (by decide) e89_20
  have e90_21 := put_ne ha21 (by decide) e90_20
  have e91_21 := put_ne ha21 (by decide) e91_20
  have e92_21 := put_ne ha21 (by decide) e92_20
  have e93_21 := put_ne ha21 (by decide) e93_20
  have e94_21 := put_ne ha21 (by decide) e94_20
  have e95_21 := put_ne ha21 (by decide) e95_20
  have e96_21 := put_ne ha21 (by decide) e96_20
  have e97_21 := put_ne ha21 (by decide) e97_20
  have e98_21 := put_ne ha21 (by decide) e98_20
  have e99_21 := put_ne ha21 (by decide) e99_20
  have e100_21 := put_ne ha21 (by decide) e100_20
  have e101_21 := put_get ha21 (by rw [hz20.out]; decide)
  have Ha21 : Hid _ := ha21
  clear hz20 ha21 e16_20 e17_20 e15_20 e3_20 e81_20 e82_20 e83_20 e84_20 e85_20 e86_20 e87_20 e88_20 e89_20 e90_20 e91_20 e92_20 e93_20 e94_20 e95_20 e96_20 e97_20 e98_20 e99_20 e100_20
  refine wpAnyH_take (i := 21) (v := undef) rfl (by kernel_rfl) (by kernel_rfl) (by kernel_rfl) (fun _ _ _ h => h) (Or.inr ⟨by simp [Region.wanted, yielded, e99_21, undef], rfl⟩) hSW ?_
  obtain ⟨a22, ha22⟩ : ∃ a22, a22 = a21.put (some 102) (undef) := ⟨_, rfl⟩
  refine wpAnyH_at ha22 ?_
  have hz22 : Hid (a22.tmps.size = 531) := put_size ha22 hz21.out
  have e16_22 := put_ne ha22 (by decide) e16_21
  have e17_22 := put_ne ha22 (by decide) e17_21
  have e15_22 := put_ne ha22 (by decide) e15_21
  have e3_22 := put_ne ha22 (by decide) e3_21
  have e81_22 := put_ne ha22 (by decide) e81_21
  have e82_22 := put_ne ha22 (by decide) e82_21
  have e83_22 := put_ne ha22 (by decide) e83_21
  have e84_22 := put_ne ha22 (by decide) e84_21
  have e85_22 := put_ne ha22 (by decide) e85_21
  have e86_22 := put_ne ha22 (by decide) e86_21
  have e87_22 := put_ne ha22 (by decide) e87_21
  have e88_22 := put_ne ha22 (by decide) e88_21
  have e89_22 := put_ne ha22 (by decide) e89_21
  have e90_22 := put_ne ha22 (by decide) e90_21
  have e91_22 := put_ne ha22 (by decide) e91_21
  have e92_22 := put_ne ha22 (by decide) e92_21
  have e93_22 := put_ne ha22 (by decide) e93_21
  have e94_22 := put_ne ha22 (by decide) e94_21
  have e95_22 := put_ne ha22 (by decide) e95_21
  have e96_22 := put_ne ha22 (by decide) e96_21
  have e97_22 := put_ne ha22 (by decide) e97_21
  have e98_22 := put_ne ha22 (by decide) e98_21
  have e99_22 := put_ne ha22 (by decide) e99_21
  have e100_22 := put_ne ha22 (by decide) e100_21
  have e101_22 := put_ne ha22 (by decide) e101_21
  have e102_22 := put_get ha22 (by rw [hz21.out]; decide)
  have Ha22 : Hid _ := ha22
  clear hz21 ha22 e16_21 e17_21 e15_21 e3_21 e81_21 e82_21 e83_21 e84_21 e85_21 e86_21 e87_21 e88_21 e89_21 e90_21 e91_21 e92_21 e93_21 e94_21 e95_21 e96_21 e97_21 e98_21 e99_21 e100_21 e101_21
  refine wpAnyH_take (i := 22) (v := undef) rfl (by kernel_rfl) (by kernel_rfl) (by kernel_rfl) (fun _ _ _ h => h) (Or.inr ⟨by simp [Region.wanted, yielded, e99_22, undef], rfl⟩) hSW ?_
  obtain ⟨a23, ha23⟩ : ∃ a23, a23 = a22.put (some 103) (undef) := ⟨_, rfl⟩
  refine wpAnyH_at ha23 ?_
  have hz23 : Hid (a23.tmps.size = 531) := put_size ha23 hz22.out
  have e16_23 := put_ne ha23 (by decide) e16_22
  have e17_23 := put_ne ha23 (by decide) e17_22
  have e15_23 := put_ne ha23 (by decide) e15_22
  have e3_23 := put_ne ha23 (by decide) e3_22
  have e81_23 := put_ne ha23 (by decide) e81_22
  have e82_23 := put_ne ha23 (by decide) e82_22
  have e83_23 := put_ne ha23 (by decide) e83_22
  have e84_23 := put_ne ha23 (by decide) e84_22
  have e85_23 := put_ne ha23 (by decide) e85_22
  have e86_23 := put_ne ha23 (by decide) e86_22
  have e87_23 := put_ne ha23 (by decide) e87_22
  have e88_23 := put_ne ha23 (by decide) e88_22
  have e89_23 := put_ne ha23 (by decide) e89_22
  have e90_23 := put_ne ha23 (by decide) e90_22
  have e91_23 := put_ne ha23 (by decide) e91_22
  have e92_23 := put_ne ha23 (by decide) e92_22
  have e93_23 := put_ne ha23 (by decide) e93_22
  have e94_23 := put_ne ha23 (by decide) e94_22
  have e95_23 := put_ne ha23 (by decide) e95_22
  have e96_23 := put_ne ha23 (by decide) e96_22
  have e97_23 := put_ne ha23 (by decide) e97_22
  have e98_23 := put_ne ha23 (by decide) e98_22
  have e99_23 := put_ne ha23 (by decide) e99_22
  have e100_23 := put_ne ha23 (by decide) e100_22
  have e101_23 := put_ne ha23 (by decide) e101_22
  have e102_23 := put_ne ha23 (by decide) e102_22
  have e103_23 := put_get ha23 (by rw [hz22.out]; decide)
  have Ha23 : Hid _ := ha23
  clear hz22 ha23 e16_22 e17_22 e15_22 e3_22 e81_22 e82_22 e83_22 e84_22 e85_22 e86_22 e87_22 e88_22 e89_22 e90_22 e91_22 e92_22 e93_22 e94_22 e95_22 e96_22 e97_22 e98_22 e99_22 e100_22 e101_22 e102_22
  refine wpAnyH_take (i := 23) (v := .bool false) rfl (by kernel_rfl) (by kernel_rfl) (by kernel_rfl) (fun _ _ _ h => h) (Or.inl ⟨by simp [Region.wanted, yielded, e89_23], ?_⟩) hSW ?_
  · rintro w' k1; go_simp
  obtain ⟨a24, ha24⟩ : ∃ a24, a24 = a23.put (some 104) (.bool false) := ⟨_, rfl⟩
  refine wpAnyH_at ha24 ?_
  have hz24 : Hid (a24.tmps.size = 531) := put_size ha24 hz23.out
  have e16_24 := put_ne ha24 (by decide) e16_23
  have e17_24 := put_ne ha24 (by decide) e17_23
  have e15_24 := put_ne ha24 (by decide) e15_23
  have e3_24 := put_ne ha24 (by decide) e3_23
  have e81_24 := put_ne ha24 (by decide) e81_23
  have e82_24 := put_ne ha24 (by decide) e82_23
  have e83_24 := put_ne ha24 (by decide) e83_23
  have e84_24 := put_ne ha24 (by decide) e84_23
  have e85_24 := put_ne ha24 (by decide) e85_23
  have e86_24 := put_ne ha24 (by decide) e86_23
  have e87_24 := put_ne ha24 (by decide) e87_23
  have e88_24 := put_ne ha24 (by decide) e88_23
  have e89_24 := put_ne ha24 (by decide) e89_23
  have e90_24 := put_ne ha24 (by decide) e90_23
  have e91_24 := put_ne ha24 (by decide) e91_23
  have e92_24 := put_ne ha24 (by decide) e92_23
  have e93_24 := put_ne ha24 (by decide) e93_23
  have e94_24 := put_ne ha24 (by decide) e94_23
  have e95_24 := put_ne ha24 (by decide) e95_23
  have e96_24 := put_ne ha24 (by decide) e96_23
  have e97_24 := put_ne ha24 (by decide) e97_23
  have e98_24 := put_ne ha24 (by decide) e98_23
  have e99_24 := put_ne ha24 (by decide) e99_23
  have e100_24 := put_ne ha24 (by decide) e100_23
  have e101_24 := put_ne ha24 (by decide) e101_23
  have e102_24 := put_ne ha24 (by decide) e102_23
  have e103_24 := put_ne ha24 (by decide) e103_23
  have e104_24 := put_get ha24 (by rw [hz23.out]; decide)
  have Ha24 : Hid _ := ha24
  clear hz23 ha24 e16_23 e17_23 e15_23 e3_23 e81_23 e82_23 e83_23 e84_23 e85_23 e86_23 e87_23 e88_23 e89_23 e90_23 e91_23 e92_23 e93_23 e94_23 e95_23 e96_23 e97_23 e98_23 e99_23 e100_23 e101_23 e102_23 e103_23
  refine wpAnyH_take (i := 24) (v := .bool false) rfl (by kernel_rfl) (by kernel_rfl) (by kernel_rfl) (fun _ _ _ h => h) (Or.inl ⟨by rfl, ?_⟩) hSW ?_
  · rintro w' k1; go_simp
  obtain ⟨a25, ha25⟩ : ∃ a25, a25 = a24.put (some 105) (.bool false) := ⟨_, rfl⟩
  refine wpAnyH_at ha25 ?_
  have hz25 : Hid (a25.tmps.size = 531) := put_size ha25 hz24.out
  have e16_25 := put_ne ha25 (by decide) e16_24
  have e17_25 := put_ne ha25 (by decide) e17_24
  have e15_25 := put_ne ha25 (by decide) e15_24
  have e3_25 := put_ne ha25 (by decide) e3_24
  have e81_25 := put_ne ha25 (by decide) e81_24
  have e82_25 := put_ne ha25 (by decide) e82_24
  have e83_25 := put_ne ha25 (by decide) e83_24
  have e84_25 := put_ne ha25 (by decide) e84_24
  have e85_25 := put_ne ha25 (by decide) e85_24
  have e86_25 := put_ne ha25 (by decide) e86_24
  have e87_25 := put_ne ha25 (by decide) e87_24
  have e88_25 := put_ne ha25 (by decide) e88_24
  have e89_25 := put_ne ha25 (by decide) e89_24
  have e90_25 := put_ne ha25 (by decide) e90_24
  have e91_25 := put_ne ha25 (by decide) e91_24
  have e92_25 := put_ne ha25 (by decide) e92_24
  have e93_25 := put_ne ha25 (by decide) e93_24
  have e94_25 := put_ne ha25 (by decide) e94_24
  have e95_25 := put_ne ha25 (by decide) e95_24
  have e96_25 := put_ne ha25 (by decide) e96_24
  have e97_25 := put_ne ha25 (by decide) e97_24
  have e98_25 := put_ne ha25 (by decide) e98_24
  have e99_25 := put_ne ha25 (by decide) e99_24
  have e100_25 := put_ne ha25 (by decide) e100_24
  have e101_25 := put_ne ha25 (by decide) e101_24
  have e102_25 := put_ne ha25 (by decide) e102_24
  have e103_25 := put_ne ha25 (by decide) e103_24
  have e104_25 := put_ne ha25 (by decide) e104_24
  have e105_25 := put_get ha25 (by rw [hz24.out]; decide)
  have Ha25 : Hid _ := ha25
  clear hz24 ha25 e16_24 e17_24 e15_24 e3_24 e81_24 e82_24 e83_24 e84_24 e85_24 e86_24 e87_24 e88_24 e89_24 e90_24 e91_24 e92_24 e93_24 e94_24 e95_24 e96_24 e97_24 e98_24 e99_24 e100_24 e101_24 e102_24 e103_24 e104_24
  refine wpAnyH_take (i := 25) (v := .pointer (some ⟨Bv, i, none⟩)) rfl (by kernel_rfl) (by kernel_rfl) (by kernel_rfl) (fun _ _ _ h => h) (Or.inl ⟨by rfl, ?_⟩) hSW ?_
  · rintro w' k1; go_simp
  obtain ⟨a26, ha26⟩ : ∃ a26, a26 = a25.put (some 106) (.pointer (some ⟨Bv, i, none⟩)) := ⟨_, rfl⟩
  refine wpAnyH_at ha26 ?_
  have hz26 : Hid (a26.tmps.size = 531) := put_size ha26 hz25.out
  have e16_26 := put_ne ha26 (by decide) e16_25
  have e17_26 := put_ne ha26 (by decide) e17_25
  have e15_26 := put_ne ha26 (by decide) e15_25
  have e3_26 := put_ne ha26 (by decide) e3_25
  have e81_26 := put_ne ha26 (by decide) e81_25
  have e82_26 := put_ne ha26 (by decide) e82_25
  have e83_26 := put_ne ha26 (by decide) e83_25
  have e84_26 := put_ne ha26 (by decide) e84_25
  have e85_26 := put_ne ha26 (by decide) e85_25
  have e86_26 := put_ne ha26 (by decide) e86_25
  have e87_26 := put_ne ha26 (by decide) e87_25
  have e88_26 := put_ne ha26 (by decide) e88_25
  have e89_26 := put_ne ha26 (by decide) e89_25
  have e90_26 := put_ne ha26 (by decide) e90_25
  have e91_26 := put_ne ha26 (by decide) e91_25
  have e92_26 := put_ne ha26 (by decide) e92_25
  have e93_26 := put_ne ha26 (by decide) e93_25
  have e94_26 := put_ne ha26 (by decide) e94_25
  have e95_26 := put_ne ha26 (by decide) e95_25
  have e96_26 := put_ne ha26 (by decide) e96_25
  have e97_26 := put_ne ha26 (by decide) e97_25
  have e98_26 := put_ne ha26 (by decide) e98_25
  have e99_26 := put_ne ha26 (by decide) e99_25
  have e100_26 := put_ne ha26 (by decide) e100_25
  have e101_26 := put_ne ha26 (by decide) e101_25
  have e102_26 := put_ne ha26 (by decide) e102_25
  have e103_26 := put_ne ha26 (by decide) e103_25
  have e104_26 := put_ne ha26 (by decide) e104_25
  have e105_26 := put_ne ha26 (by decide) e105_25
  have e106_26 := put_get ha26 (by rw [hz25.out]; decide)
  have Ha26 : Hid _ := ha26
  clear hz25 ha26 e16_25 e17_25 e15_25 e3_25 e81_25 e82_25 e83_25 e84_25 e85_25 e86_25 e87_25 e88_25 e89_25 e90_25 e91_25 e92_25 e93_25 e94_25 e95_25 e96_25 e97_25 e98_25 e99_25 e100_25 e101_25 e102_25 e103_25 e104_25 e105_25
  refine wpAnyH_ready (rs := [26]) (by kernel_rfl) (by simp) ?_
  refine AllReadyH.cons rfl (fun K hK => ?_) AllReadyH.nil
  go_simp
  have hS3 : (fun w' : World => w'.cell? ⟨Bz, 2, none⟩ = some (.slice (some ⟨Bv, 0, none⟩) oldN oldN) ) (wr.drew.setCell ⟨Bv, i, none⟩ (.bool false)) := (World.cell?_of_block (a := ⟨Bz, _, none⟩) (Below.heap_setCell wr.drew _ _ _ hne)).trans hSW
  refine hK.out _ _ hS3 (fun _ => ?_)
  refine wpAnyH_done (by kernel_rfl) ?_ _
  refine NoPanic.normal ?_
  refine hQ.out _ ?_
  rw [Ha26.out, Ha25.out, Ha24.out, Ha23.out, Ha22.out, Ha21.out, Ha20.out, Ha19.out, Ha18.out, Ha17.out, Ha16.out, Ha15.out, Ha14.out, Ha13.out, Ha12.out, Ha11.out, Ha10.out, Ha9.out, Ha8.out, Ha7.out, Ha6.out, Ha5.out, Ha4.out, Ha3.out, Ha2.out, Ha1.out]


set_option maxHeartbeats 4000000 in
set_option maxRecDepth 100000 in
theorem reg17c {wr : World} {Bz Bv oldN nx i mn mc : Nat} {mA : Option Addr} {vv : Value} {Q : Exit → Act → World → Prop} {a0 : Act} (hz0 : Hid (a0.tmps.size = 531)) (e16_0 : a0.tmps[16]? = some (.pointer (some ⟨Bz, 0, none⟩))) (e17_0 : a0.tmps[17]? = some (.int .i64 (i : Nat))) (e15_0 : a0.tmps[15]? = some (.int .i64 (nx : Nat))) (e3_0 : a0.tmps[3]? = some (.slice mA mn mc)) (hc1 : ¬ i < nx) (hc2 :  nx < i) (hc3 : ¬ i < mn) 
    (z2 : wr.drew.cell? ⟨Bz, 2, none⟩ = some (.slice (some ⟨Bv, 0, none⟩) oldN oldN)) (hi : i < oldN) (vc : wr.drew.cell? ⟨Bv, i, none⟩ = some vv) (vf : wr.drew.frozen? ⟨Bv, i, none⟩ = false) (hne : Bz ≠ Bv)
    (hQ : Hid (∀ (a' : Act), a' = ((((((((((((((((((((((((((a0.put (some 81) (.pointer (some ⟨Bz, 0, none⟩))).put (some 82) (.pointer (some ⟨Bz, 0, none⟩))).put (some 83) (.pointer (some ⟨Bz, 2, none⟩))).put (some 84) (.slice (some ⟨Bv, 0, none⟩) oldN oldN)).put (some 85) (.int .i64 (i : Nat))).put (some 86) (.int .i64 (i : Nat))).put (some 87) (.int .i64 (nx : Nat))).put (some 88) (.bool false)).put (some 89) (.bool false)).put (some 90) (.int .i64 (i : Nat))).put (some 91) (.int .i64 (nx : Nat))).put (some 92) (.bool true)).put (some 93) (.bool true)).put (some 94) (.int .i64 (i : Nat))).put (some 95) (.slice mA mn mc)).put (some 96) (.int .i64 (mn : Nat))).put (some 97) (.bool false)).put (some 98) (.bool false)).put (some 99) (.bool false)).put (some 100) (undef)).put (some 101) (undef)).put (some 102) (undef)).put (some 103) (undef)).put (some 104) (.bool false)).put (some 105) (.bool false)).put (some 106) (.pointer (some ⟨Bv, i, none⟩))) → Q .normal a' (wr.drew.setCell ⟨Bv, i, none⟩ (.bool false)))) :
    Code.wp Yba.prog (regOf 17 (bodyOf Yba.f3)) Q a0 wr := by
  conv => arg 2; whnf
  have hSW : (fun w' : World => w'.cell? ⟨Bz, 2, none⟩ = some (.slice (some ⟨Bv, 0, none⟩) oldN oldN) ) wr.drew := z2
  refine wp_region_noPanic ?_
  refine wp_region_held_drew (S := (fun w' : World => w'.cell? ⟨Bz, 2, none⟩ = some (.slice (some ⟨Bv, 0, none⟩) oldN oldN) )) (by kernel_rfl) hSW (fun _ => ?_)
  refine wpAnyH_take (i := 0) (v := .pointer (some ⟨Bz, 0, none⟩)) rfl (by kernel_rfl) (by kernel_rfl) (by kernel_rfl) (fun _ _ _ h => h) (Or.inl ⟨by rfl, ?_⟩) hSW ?_
  · rintro w' k1; go_simp
  obtain ⟨a1, ha1⟩ : ∃ a1, a1 = a0.put (some 81) (.pointer (some ⟨Bz, 0, none⟩)) := ⟨_, rfl⟩
  refine wpAnyH_at ha1 ?_
  have hz1 : Hid (a1.tmps.size = 531) := put_size ha1 hz0.out
  have e16_1 := put_ne ha1 (by decide) e16_0
  have e17_1 := put_ne ha1 (by decide) e17_0
  have e15_1 := put_ne ha1 (by decide) e15_0
  have e3_1 := put_ne ha1 (by decide) e3_0
  have e81_1 := put_get ha1 (by rw [hz0.out]; decide)
  have Ha1 : Hid _ := ha1
  clear hz0 ha1 e16_0 e17_0 e15_0 e3_0
  refine wpAnyH_take (i := 1) (v := .pointer (some ⟨Bz, 0, none⟩)) rfl (by kernel_rfl) (by kernel_rfl) (by kernel_rfl) (fun _ _ _ h => h) (Or.inl ⟨by rfl, ?_⟩) hSW ?_
  · rintro w' k1; go_simp
  obtain ⟨a2, ha2⟩ : ∃ a2, a2 = a1.put (some 82) (.pointer (some ⟨Bz, 0, none⟩)) := ⟨_, rfl⟩
  refine wpAnyH_at ha2 ?_
  have hz2 : Hid (a2.tmps.size = 531) := put_size ha2 hz1.out
  have e16_2 := put_ne ha2 (by decide) e16_1
  have e17_2 := put_ne ha2 (by decide) e17_1
  have e15_2 := put_ne ha2 (by decide) e15_1
  have e3_2 := put_ne ha2 (by decide) e3_1
  have e81_2 := put_ne ha2 (by decide) e81_1
  have e82_2 := put_get ha2 (by rw [hz1.out]; decide)
  have Ha2 : Hid _ := ha2
  clear hz1 ha2 e16_1 e17_1 e15_1 e3_1 e81_1
  refine wpAnyH_take (i := 2) (v := .pointer (some ⟨Bz, 2, none⟩)) rfl (by kernel_rfl) (by kernel_rfl) (by kernel_rfl) (fun _ _ _ h => h) (Or.inl ⟨by rfl, ?_⟩) hSW ?_
  · rintro w' k1; go_simp
  obtain ⟨a3, ha3⟩ : ∃ a3, a3 = a2.put (some 83) (.pointer (some ⟨Bz, 2, none⟩)) := ⟨_, rfl⟩
  refine wpAnyH_at ha3 ?_
  have hz3 : Hid (a3.tmps.size = 531) := put_size ha3 hz2.out
  have e16_3 := put_ne ha3 (by decide) e16_2
  have e17_3 := put_ne ha3 (by decide) e17_2
  have e15_3 := put_ne ha3 (by decide) e15_2
  have e3_3 := put_ne ha3 (by decide) e3_2
  have e81_3 := put_ne ha3 (by decide) e81_2
  have e82_3 := put_ne ha3 (by decide) e82_2
  have e83_3 := put_get ha3 (by rw [hz2.out]; decide)
  have Ha3 : Hid _ := ha3
  clear hz2 ha3 e16_2 e17_2 e15_2 e3_2 e81_2 e82_2
  refine wpAnyH_take (i := 3) (v := .slice (some ⟨Bv, 0, none⟩) oldN oldN) rfl (by kernel_rfl) (by kernel_rfl) (by kernel_rfl) (fun _ _ _ h => h) (Or.inl ⟨by rfl, ?_⟩) hSW ?_
  · rintro w' k1; go_simp
  obtain ⟨a4, ha4⟩ : ∃ a4, a4 = a3.put (some 84) (.slice (some ⟨Bv, 0, none⟩) oldN oldN) := ⟨_, rfl⟩
  refine wpAnyH_at ha4 ?_
  have hz4 : Hid (a4.tmps.size = 531) := put_size ha4 hz3.out
  have e16_4 := put_ne ha4 (by decide) e16_3
  have e17_4 := put_ne ha4 (by decide) e17_3
  have e15_4 := put_ne ha4 (by decide) e15_3
  have e3_4 := put_ne ha4 (by decide) e3_3
  have e81_4 := put_ne ha4 (by decide) e81_3
  have e82_4 := put_ne ha4 (by decide) e82_3
  have e83_4 := put_ne ha4 (by decide) e83_3
  have e84_4 := put_get ha4 (by rw [hz3.out]; decide)
  have Ha4 : Hid _ := ha4
  clear hz3 ha4 e16_3 e17_3 e15_3 e3_3 e81_3 e82_3 e83_3
  refine wpAnyH_take (i := 4) (v := .int .i64 (i : Nat)) rfl (by kernel_rfl) (by kernel_rfl) (by kernel_rfl) (fun _ _ _ h => h) (Or.inl ⟨by rfl, ?_⟩) hSW ?_
  · rintro w' k1; go_simp
  obtain ⟨a5, ha5⟩ : ∃ a5, a5 = a4.put (some 85) (.int .i64 (i : Nat)) := ⟨_, rfl⟩
  refine wpAnyH_at ha5 ?_
  have hz5 : Hid (a5.tmps.size = 531) := put_size ha5 hz4.out
  have e16_5 := put_ne ha5 (by decide) e16_4
  have e17_5 := put_ne ha5 (by decide) e17_4
  have e15_5 := put_ne ha5 (by decide) e15_4
  have e3_5 := put_ne ha5 (by decide) e3_4
  have e81_5 := put_ne ha5 (by decide) e81_4
  have e82_5 := put_ne ha5 (by decide) e82_4
  have e83_5 := put_ne ha5 (by decide) e83_4
  have e84_5 := put_ne ha5 (by decide) e84_4
  have e85_5 := put_get ha5 (by rw [hz4.out]; decide)
  have Ha5 : Hid _ := ha5
  clear hz4 ha5 e16_4 e17_4 e15_4 e3_4 e81_4 e82_4 e83_4 e84_4
  refine wpAnyH_take (i := 5) (v := .int .i64 (i : Nat)) rfl (by kernel_rfl) (by kernel_rfl) (by kernel_rfl) (fun _ _ _ h => h) (Or.inl ⟨by rfl, ?_⟩) hSW ?_
  · rintro w' k1; go_simp
  obtain ⟨a6, ha6⟩ : ∃ a6, a6 = a5.put (some 86) (.int .i64 (i : Nat)) := ⟨_, rfl⟩
  refine wpAnyH_at ha6 ?_
  have hz6 : Hid (a6.tmps.size = 531) := put_size ha6 hz5.out
  have e16_6 := put_ne ha6 (by decide) e16_5
  have e17_6 := put_ne ha6 (by decide) e17_5
  have e15_6 := put_ne ha6 (by decide) e15_5
  have e3_6 := put_ne ha6 (by decide) e3_5
  have e81_6 := put_ne ha6 (by decide) e81_5
  have e82_6 := put_ne ha6 (by decide) e82_5
  have e83_6 := put_ne ha6 (by decide) e83_5
  have e84_6 := put_ne ha6 (by decide) e84_5
  have e85_6 := put_ne ha6 (by decide) e85_5
  have e86_6 := put_get ha6 (by rw [hz5.out]; decide)
  have Ha6 : Hid _ := ha6
  clear hz5 ha6 e16_5 e17_5 e15_5 e3_5 e81_5 e82_5 e83_5 e84_5 e85_5
  refine wpAnyH_take (i := 6) (v := .int .i64 (nx : Nat)) rfl (by kernel_rfl) (by kernel_rfl) (by kernel_rfl) (fun _ _ _ h => h) (Or.inl ⟨by rfl, ?_⟩) hSW ?_
  · rintro w' k1; go_simp
  obtain ⟨a7, ha7⟩ : ∃ a7, a7 = a6.put (some 87) (.int .i64 (nx : Nat)) := ⟨_, rfl⟩
  refine wpAnyH_at ha7 ?_
  have hz7 : Hid (a7.tmps.size = 531) := put_size ha7 hz6.out
  have e16_7 := put_ne ha7 (by decide) e16_6
  have e17_7 := put_ne ha7 (by decide) e17_6
  have e15_7 := put_ne ha7 (by decide) e15_6
  have e3_7 := put_ne ha7 (by decide) e3_6
  have e81_7 := put_ne ha7 (by decide) e81_6
  have e82_7 := put_ne ha7 (by decide) e82_6
  have e83_7 := put_ne ha7 (by decide) e83_6
  have e84_7 := put_ne ha7 (by decide) e84_6
  have e85_7 := put_ne ha7 (by decide) e85_6
  have e86_7 := put_ne ha7 (by decide) e86_6
  have e87_7 := put_get ha7 (by rw [hz6.out]; decide)
  have Ha7 : Hid _ := ha7
  clear hz6 ha7 e16_6 e17_6 e15_6 e3_6 e81_6 e82_6 e83_6 e84_6 e85_6 e86_6
  refine wpAnyH_take (i := 7) (v := .bool false) rfl (by kernel_rfl) (by kernel_rfl) (by kernel_rfl) (fun _ _ _ h => h) (Or.inl ⟨by rfl, ?_⟩) hSW ?_
  · rintro w' k1; go_simp
  obtain ⟨a8, ha8⟩ : ∃ a8, a8 = a7.put (some 88) (.bool false) := ⟨_, rfl⟩
  refine wpAnyH_at ha8 ?_
  have hz8 : Hid (a8.tmps.size = 531) := put_size ha8 hz7.out
  have e16_8 := put_ne ha8 (by decide) e16_7
  have e17_8 := put_ne ha8 (by decide) e17_7
  have e15_8 := put_ne ha8 (by decide) e15_7
  have e3_8 := put_ne ha8 (by decide) e3_7
  have e81_8 := put_ne ha8 (by decide) e81_7
  have e82_8 := put_ne ha8 (by decide) e82_7
  have e83_8 := put_ne ha8 (by decide) e83_7
  have e84_8 := put_ne ha8 (by decide) e84_7
  have e85_8 := put_ne ha8 (by decide) e85_7
  have e86_8 := put_ne ha8 (by decide) e86_7
  have e87_8 := put_ne ha8 (by decide) e87_7
  have e88_8 := put_get ha8 (by rw [hz7.out]; decide)
  have Ha8 : Hid _ := ha8
  clear hz7 ha8 e16_7 e17_7 e15_7 e3_7 e81_7 e82_7 e83_7 e84_7 e85_7 e86_7 e87_7
  refine wpAnyH_take (i := 8) (v := .bool false) rfl (by kernel_rfl) (by kernel_rfl) (by kernel_rfl) (fun _ _ _ h => h) (Or.inl ⟨by rfl, ?_⟩) hSW ?_
  · rintro w' k1; go_simp
  obtain ⟨a9, ha9⟩ : ∃ a9, a9 = a8.put (some 89) (.bool false) := ⟨_, rfl⟩
  refine wpAnyH_at ha9 ?_
  have hz9 : Hid (a9.tmps.size = 531) := put_size ha9 hz8.out
  have e16_9 := put_ne ha9 (by decide) e16_8
  have e17_9 := put_ne ha9 (by decide) e17_8
  have e15_9 := put_ne ha9 (by decide) e15_8
  have e3_9 := put_ne ha9 (by decide) e3_8
  have e81_9 := put_ne ha9 (by decide) e81_8
  have e82_9 := put_ne ha9 (by decide) e82_8
  have e83_9 := put_ne ha9 (by decide) e83_8
  have e84_9 := put_ne ha9 (by decide) e84_8
  have e85_9 := put_ne ha9 (by decide) e85_8
  have e86_9 := put_ne ha9 (by decide) e86_8
  have e87_9 := put_ne ha9 (by decide) e87_8
  have e88_9 := put_ne ha9 (by decide) e88_8
  have e89_9 := put_get ha9 (by rw [hz8.out]; decide)
  have Ha9 : Hid _ := ha9
  clear hz8 ha9 e16_8 e17_8 e15_8 e3_8 e81_8 e82_8 e83_8 e84_8 e85_8 e86_8 e87_8 e88_8
  refine wpAnyH_take (i := 9) (v := .int .i64 (i : Nat)) rfl (by kernel_rfl) (by kernel_rfl) (by kernel_rfl) (fun _ _ _ h => h) (Or.inl ⟨by simp [Region.wanted, yielded, e89_9], ?_⟩) hSW ?_
  · rintro w' k1; go_simp
  obtain ⟨a10, ha10⟩ : ∃ a10, a10 = a9.put (some 90) (.int .i64 (i : Nat)) := ⟨_, rfl⟩
  refine wpAnyH_at ha10 ?_
  have hz10 : Hid (a10.tmps.size = 531) := put_size ha10 hz9.out
  have e16_10 := put_ne ha10 (by decide) e16_9
  have e17_10 := put_ne ha10 (by decide) e17_9
  have e15_10 := put_ne ha10 (by decide) e15_9
  have e3_10 := put_ne ha10 (by decide) e3_9
  have e81_10 := put_ne ha10 (by decide) e81_9
  have e82_10 := put_ne ha10 (by decide) e82_9
  have e83_10 := put_ne ha10 (by decide) e83_9
  have e84_10 := put_ne ha10 (by decide) e84_9
  have e85_10 := put_ne ha10 (by decide) e85_9
  have e86_10 := put_ne ha10 (by decide) e86_9
  have e87_10 := put_ne ha10 (by decide) e87_9
  have e88_10 := put_ne ha10 (by decide) e88_9
  have e89_10 := put_ne ha10 (by decide) e89_9
  have e90_10 := put_get ha10 (by rw [hz9.out]; decide)
  have Ha10 : Hid _ := ha10
  clear hz9 ha10 e16_9 e17_9 e15_9 e3_9 e81_9 e82_9 e83_9 e84_9 e85_9 e86_9 e87_9 e88_9 e89_9
  refine wpAnyH_take (i := 10) (v := .int .i64 (nx : Nat)) rfl (by kernel_rfl) (by kernel_rfl) (by kernel_rfl) (fun _ _ _ h => h) (Or.inl ⟨by simp [Region.wanted, yielded, e89_10], ?_⟩) hSW ?_
  · rintro w' k1; go_simp
  obtain ⟨a11, ha11⟩ : ∃ a11, a11 = a10.put (some 91) (.int .i64 (nx : Nat)) := ⟨_, rfl⟩
  refine wpAnyH_at ha11 ?_
  have hz11 : Hid (a11.tmps.size = 531) := put_size ha11 hz10.out
  have e16_11 := put_ne ha11 (by decide) e16_10
  have e17_11 := put_ne ha11 (by decide) e17_10
  have e15_11 := put_ne ha11 (by decide) e15_10
  have e3_11 := put_ne ha11 (by decide) e3_10
  have e81_11 := put_ne ha11 (by decide) e81_10
  have e82_11 := put_ne ha11 (by decide) e82_10
  have e83_11 := put_ne ha11 (by decide) e83_10
  have e84_11 := put_ne ha11 (by decide) e84_10
  have e85_11 := put_ne ha11 (by decide) e85_10
  have e86_11 := put_ne ha11 (by decide) e86_10
  have e87_11 := put_ne ha11 (by decide) e87_10
  have e88_11 := put_ne ha11 (by decide) e88_10
  have e89_11 := put_ne ha11 (by decide) e89_10
  have e90_11 := put_ne ha11 (by decide) e90_10
  have e91_11 := put_get ha11 (by rw [hz10.out]; decide)
  have Ha11 : Hid _ := ha11
  clear hz10 ha11 e16_10 e17_10 e15_10 e3_10 e81_10 e82_10 e83_10 e84_10 e85_10 e86_10 e87_10 e88_10 e89_10 e90_10
  refine wpAnyH_take (i := 11) (v := .bool true) rfl (by kernel_rfl) (by kernel_rfl) (by kernel_rfl) (fun _ _ _ h => h) (Or.inl ⟨by simp [Region.wanted, yielded, e89_11], ?_⟩) hSW ?_
  · rintro w' k1; go_simp
  obtain ⟨a12, ha12⟩ : ∃ a12, a12 = a11.put (some 92) (.bool true) := ⟨_, rfl⟩
  refine wpAnyH_at ha12 ?_
  have hz12 : Hid (a12.tmps.size = 531) := put_size ha12 hz11.out
  have e16_12 := put_ne ha12 (by decide) e16_11
  have e17_12 := put_ne ha12 (by decide) e17_11
  have e15_12 := put_ne ha12 (by decide) e15_11
  have e3_12 := put_ne ha12 (by decide) e3_11
  have e81_12 := put_ne ha12 (by decide) e81_11
  have e82_12 := put_ne ha12 (by decide) e82_11
  have e83_12 := put_ne ha12 (by decide) e83_11
  have e84_12 := put_ne ha12 (by decide) e84_11
  have e85_12 := put_ne ha12 (by decide) e85_11
  have e86_12 := put_ne ha12 (by decide) e86_11
  have e87_12 := put_ne ha12 (by decide) e87_11
  have e88_12 := put_ne ha12 (by decide) e88_11
  have e89_12 := put_ne ha12 (by decide) e89_11
  have e90_12 := put_ne ha12 (by decide) e90_11
  have e91_12 := put_ne ha12 (by decide) e91_11
  have e92_12 := put_get ha12 (by rw [hz11.out]; decide)
  have Ha12 : Hid _ := ha12
  clear hz11 ha12 e16_11 e17_11 e15_11 e3_11 e81_11 e82_11 e83_11 e84_11 e85_11 e86_11 e87_11 e88_11 e89_11 e90_11 e91_11
  refine wpAnyH_take (i := 12) (v := .bool true) rfl (by kernel_rfl) (by kernel_rfl) (by kernel_rfl) (fun _ _ _ h => h) (Or.inl ⟨by simp [Region.wanted, yielded, e89_12], ?_⟩) hSW ?_
  · rintro w' k1; go_simp
  obtain ⟨a13, ha13⟩ : ∃ a13, a13 = a12.put (some 93) (.bool true) := ⟨_, rfl⟩
  refine wpAnyH_at ha13 ?_
  have hz13 : Hid (a13.tmps.size = 531) := put_size ha13 hz12.out
  have e16_13 := put_ne ha13 (by decide) e16_12
  have e17_13 := put_ne ha13 (by decide) e17_12
  have e15_13 := put_ne ha13 (by decide) e15_12
  have e3_13 := put_ne ha13 (by decide) e3_12
  have e81_13 := put_ne ha13 (by decide) e81_12
  have e82_13 := put_ne ha13 (by decide) e82_12
  have e83_13 := put_ne ha13 (by decide) e83_12
  have e84_13 := put_ne ha13 (by decide) e84_12
  have e85_13 := put_ne ha13 (by decide) e85_12
  have e86_13 := put_ne ha13 (by decide) e86_12
  have e87_13 := put_ne ha13 (by decide) e87_12
  have e88_13 := put_ne ha13 (by decide) e88_12
  have e89_13 := put_ne ha13 (by decide) e89_12
  have e90_13 := put_ne ha13 (by decide) e90_12
  have e91_13 := put_ne ha13 (by decide) e91_12
  have e92_13 := put_ne ha13 (by decide) e92_12
  have e93_13 := put_get ha13 (by rw [hz12.out]; decide)
  have Ha13 : Hid _ := ha13
  clear hz12 ha13 e16_12 e17_12 e15_12 e3_12 e81_12 e82_12 e83_12 e84_12 e85_12 e86_12 e87_12 e88_12 e89_12 e90_12 e91_12 e92_12
  refine wpAnyH_take (i := 13) (v := .int .i64 (i : Nat)) rfl (by kernel_rfl) (by kernel_rfl) (by kernel_rfl) (fun _ _ _ h => h) (Or.inl ⟨by simp [Region.wanted, yielded, e93_13], ?_⟩) hSW ?_
  · rintro w' k1; go_simp
  obtain ⟨a14, ha14⟩ : ∃ a14, a14 = a13.put (some 94) (.int .i64 (i : Nat)) := ⟨_, rfl⟩
  refine wpAnyH_at ha14 ?_
  have hz14 : Hid (a14.tmps.size = 531) := put_size ha14 hz13.out
  have e16_14 := put_ne ha14 (by decide) e16_13
  have e17_14 := put_ne ha14 (by decide) e17_13
  have e15_14 := put_ne ha14 (by decide) e15_13
  have e3_14 := put_ne ha14 (by decide) e3_13
  have e81_14 := put_ne ha14 (by decide) e81_13
  have e82_14 := put_ne ha14 (by decide) e82_13
  have e83_14 := put_ne ha14 (by decide) e83_13
  have e84_14 := put_ne ha14 (by decide) e84_13
  have e85_14 := put_ne ha14 (by decide) e85_13
  have e86_14 := put_ne ha14 (by decide) e86_13
  have e87_14 := put_ne ha14 (by decide) e87_13
  have e88_14 := put_ne ha14 (by decide) e88_13
  have e89_14 := put_ne ha14 (by decide) e89_13
  have e90_14 := put_ne ha14 (by decide) e90_13
  have e91_14 := put_ne ha14 (by decide) e91_13
  have e92_14 := put_ne ha14 (by decide) e92_13
  have e93_14 := put_ne ha14 (by decide) e93_13
  have e94_14 := put_get ha14 (by rw [hz13.out]; decide)
  have Ha14 : Hid _ := ha14
  clear hz13 ha14 e16_13 e17_13 e15_13 e3_13 e81_13 e82_13 e83_13 e84_13 e85_13 e86_13 e87_13 e88_13 e89_13 e90_13 e91_13 e92_13 e93_13
  refine wpAnyH_take (i := 14) (v := .slice mA mn mc) rfl (by kernel_rfl) (by kernel_rfl) (by kernel_rfl) (fun _ _ _ h => h) (Or.inl ⟨by simp [Region.wanted, yielded, e93_14], ?_⟩) hSW ?_
  · rintro w' k1; go_simp
  obtain ⟨a15, ha15⟩ : ∃ a15, a15 = a14.put (some 95) (.slice mA mn mc) := ⟨_, rfl⟩
  refine wpAnyH_at ha15 ?_
  have hz15 : Hid (a15.tmps.size = 531) := put_size ha15 hz14.out
  have e16_15 := put_ne ha15 (by decide) e16_14
  have e17_15 := put_ne ha15 (by decide) e17_14
  have e15_15 := put_ne ha15 (by decide) e15_14
  have e3_15 := put_ne ha15 (by decide) e3_14
  have e81_15 := put_ne ha15 (by decide) e81_14
  have e82_15 := put_ne ha15 (by decide) e82_14
  have e83_15 := put_ne ha15 (by decide) e83_14
  have e84_15 := put_ne ha15 (by decide) e84_14
  have e85_15 := put_ne ha15 (by decide) e85_14
  have e86_15 := put_ne ha15 (by decide) e86_14
  have e87_15 := put_ne ha15 (by decide) e87_14
  have e88_15 := put_ne ha15 (by decide) e88_14
  have e89_15 := put_ne ha15 (by decide) e89_14
  have e90_15 := put_ne ha15 (by decide) e90_14
  have e91_15 := put_ne ha15 (by decide) e91_14
  have e92_15 := put_ne ha15 (by decide) e92_14
  have e93_15 := put_ne ha15 (by decide) e93_14
  have e94_15 := put_ne ha15 (by decide) e94_14
  have e95_15 := put_get ha15 (by rw [hz14.out]; decide)
  have Ha15 : Hid _ := ha15
  clear hz14 ha15 e16_14 e17_14 e15_14 e3_14 e81_14 e82_14 e83_14 e84_14 e85_14 e86_14 e87_14 e88_14 e89_14 e90_14 e91_14 e92_14 e93_14 e94_14
  refine wpAnyH_take (i := 15) (v := .int .i64 (mn : Nat)) rfl (by kernel_rfl) (by kernel_rfl) (by kernel_rfl) (fun _ _ _ h => h) (Or.inl ⟨by simp [Region.wanted, yielded, e93_15], ?_⟩) hSW ?_
  · rintro w' k1; go_simp
  obtain ⟨a16, ha16⟩ : ∃ a16, a16 = a15.put (some 96) (.int .i64 (mn : Nat)) := ⟨_, rfl⟩
  refine wpAnyH_at ha16 ?_
  have hz16 : Hid (a16.tmps.size = 531) := put_size ha16 hz15.out
  have e16_16 := put_ne ha16 (by decide) e16_15
  have e17_16 := put_ne ha16 (by decide) e17_15
  have e15_16 := put_ne ha16 (by decide) e15_15
  have e3_16 := put_ne ha16 (by decide) e3_15
  have e81_16 := put_ne ha16 (by decide) e81_15
  have e82_16 := put_ne ha16 (by decide) e82_15
  have e83_16 := put_ne ha16 (by decide) e83_15
  have e84_16 := put_ne ha16 (by decide) e84_15
  have e85_16 := put_ne ha16 (by decide) e85_15
  have e86_16 := put_ne ha16 (by decide) e86_15
  have e87_16 := put_ne ha16 (by decide) e87_15
  have e88_16 := put_ne ha16 (by decide) e88_15
  have e89_16 := put_ne ha16 (by decide) e89_15
  have e90_16 := put_ne ha16 (by decide) e90_15
  have e91_16 := put_ne ha16 (by decide) e91_15
  have e92_16 := put_ne ha16 (by decide) e92_15
  have e93_16 := put_ne ha16 (by decide) e93_15
  have e94_16 := put_ne ha16 (by decide) e94_15
  have e95_16 := put_ne ha16 (by decide) e95_15
  have e96_16 := put_get ha16 (by rw [hz15.out]; decide)
  have Ha16 : Hid _ := ha16
  clear hz15 ha16 e16_15 e17_15 e15_15 e3_15 e81_15 e82_15 e83_15 e84_15 e85_15 e86_15 e87_15 e88_15 e89_15 e90_15 e91_15 e92_15 e93_15 e94_15 e95_15
  refine wpAnyH_take (i := 16) (v := .bool false) rfl (by kernel_rfl) (by kernel_rfl) (by kernel_rfl) (fun _ _ _ h => h) (Or.inl ⟨by simp [Region.wanted, yielded, e93_16], ?_⟩) hSW ?_
  · rintro w' k1; go_simp
  obtain ⟨a17, ha17⟩ : ∃ a17, a17 = a16.put (some 97) (.bool false) := ⟨_, rfl⟩
  refine wpAnyH_at ha17 ?_
  have hz17 : Hid (a17.tmps.size = 531) := put_size ha17 hz16.out
  have e16_17 := put_ne ha17 (by decide) e16_16
  have e17_17 := put_ne ha17 (by decide) e17_16
  have e15_17 := put_ne ha17 (by decide) e15_16
  have e3_17 := put_ne ha17 (by decide) e3_16
  have e81_17 := put_ne ha17 (by decide) e81_16
  have e82_17 := put_ne ha17 (by decide) e82_16
  have e83_17 := put_ne ha17 (by decide) e83_16
  have e84_17 := put_ne ha17 (by decide) e84_16
  have e85_17 := put_ne ha17 (by decide) e85_16
  have e86_17 := put_ne ha17 (by decide) e86_16
  have e87_17 := put_ne ha17 (by decide) e87_16
  have e88_17 := put_ne ha17 (by decide) e88_16
  have e89_17 := put_ne ha17 (by decide) e89_16
  have e90_17 := put_ne ha17 (by decide) e90_16
  have e91_17 := put_ne ha17 (by decide) e91_16
  have e92_17 := put_ne ha17 (by decide) e92_16
  have e93_17 := put_ne ha17 (by decide) e93_16
  have e94_17 := put_ne ha17 (by decide) e94_16
  have e95_17 := put_ne ha17 (by decide) e95_16
  have e96_17 := put_ne ha17 (by decide) e96_16
  have e97_17 := put_get ha17 (by rw [hz16.out]; decide)
  have Ha17 : Hid _ := ha17
  clear hz16 ha17 e16_16 e17_16 e15_16 e3_16 e81_16 e82_16 e83_16 e84_16 e85_16 e86_16 e87_16 e88_16 e89_16 e90_16 e91_16 e92_16 e93_16 e94_16 e95_16 e96_16
  refine wpAnyH_take (i := 17) (v := .bool false) rfl (by kernel_rfl) (by kernel_rfl) (by kernel_rfl) (fun _ _ _ h => h) (Or.inl ⟨by simp [Region.wanted, yielded, e89_17], ?_⟩) hSW ?_
  · rintro w' k1; go_simp
  obtain ⟨a18, ha18⟩ : ∃ a18, a18 = a17.put (some 98) (.bool false) := ⟨_, rfl⟩
  refine wpAnyH_at ha18 ?_
  have hz18 : Hid (a18.tmps.size = 531) := put_size ha18 hz17.out
  have e16_18 := put_ne ha18 (by decide) e16_17
  have e17_18 := put_ne ha18 (by decide) e17_17
  have e15_18 := put_ne ha18 (by decide) e15_17
  have e3_18 := put_ne ha18 (by decide) e3_17
  have e81_18 := put_ne ha18 (by decide) e81_17
  have e82_18 := put_ne ha18 (by decide) e82_17
  have e83_18 := put_ne ha18 (by decide) e83_17
  have e84_18 := put_ne ha18 (by decide) e84_17
  have e85_18 := put_ne ha18 (by decide) e85_17
  have e86_18 := put_ne ha18 (by decide) e86_17
  have e87_18 := put_ne ha18 (by decide) e87_17
  have e88_18 := put_ne ha18 (by decide) e88_17
  have e89_18 := put_ne ha18 (by decide) e89_17
  have e90_18 := put_ne ha18 (by decide) e90_17
  have e91_18 := put_ne ha18 (by decide) e91_17
  have e92_18 := put_ne ha18 (by decide) e92_17
  have e93_18 := put_ne ha18 (by decide) e93_17
  have e94_18 := put_ne ha18 (by decide) e94_17
  have e95_18 := put_ne ha18 (by decide) e95_17
  have e96_18 := put_ne ha18 (by decide) e96_17
  have e97_18 := put_ne ha18 (by decide) e97_17
  have e98_18 := put_get ha18 (by rw [hz17.out]; decide)
  have Ha18 : Hid _ := ha18
  clear hz17 ha18 e16_17 e17_17 e15_17 e3_17 e81_17 e82_17 e83_17 e84_17 e85_17 e86_17 e87_17 e88_17 e89_17 e90_17 e91_17 e92_17 e93_17 e94_17 e95_17 e96_17 e97_17
  refine wpAnyH_take (i := 18) (v := .bool false) rfl (by kernel_rfl) (by kernel_rfl) (by kernel_rfl) (fun _ _ _ h => h) (Or.inl ⟨by simp [Region.wanted, yielded, e89_18], ?_⟩) hSW ?_
  · rintro w' k1; go_simp
  obtain ⟨a19, ha19⟩ : ∃ a19, a19 = a18.put (some 99) (.bool false) := ⟨_, rfl⟩
  refine wpAnyH_at ha19 ?_
  have hz19 : Hid (a19.tmps.size = 531) := put_size ha19 hz18.out
  have e16_19 := put_ne ha19 (by decide) e16_18
  have e17_19 := put_ne ha19 (by decide) e17_18
  have e15_19 := put_ne ha19 (by decide) e15_18
  have e3_19 := put_ne ha19 (by decide) e3_18
  have e81_19 := put_ne ha19 (by decide) e81_18
  have e82_19 := put_ne ha19 (by decide) e82_18
  have e83_19 := put_ne ha19 (by decide) e83_18
  have e84_19 := put_ne ha19 (by decide) e84_18
  have e85_19 := put_ne ha19 (by decide) e85_18
  have e86_19 := put_ne ha19 (by decide) e86_18
  have e87_19 := put_ne ha19 (by decide) e87_18
  have e88_19 := put_ne ha19 (by decide) e88_18
  have e89_19 := put_ne ha19 (by decide) e89_18
  have e90_19 := put_ne ha19 (by decide) e90_18
  have e91_19 := put_ne ha19 (by decide) e91_18
  have e92_19 := put_ne ha19 (by decide) e92_18
  have e93_19 := put_ne ha19 (by decide) e93_18
  have e94_19 := put_ne ha19 (by decide) e94_18
  have e95_19 := put_ne ha19 (by decide) e95_18
  have e96_19 := put_ne ha19 (by decide) e96_18
  have e97_19 := put_ne ha19 (by decide) e97_18
  have e98_19 := put_ne ha19 (by decide) e98_18
  have e99_19 := put_get ha19 (by rw [hz18.out]; decide)
  have Ha19 : Hid _ := ha19
  clear hz18 ha19 e16_18 e17_18 e15_18 e3_18 e81_18 e82_18 e83_18 e84_18 e85_18 e86_18 e87_18 e88_18 e89_18 e90_18 e91_18 e92_18 e93_18 e94_18 e95_18 e96_18 e97_18 e98_18
  refine wpAnyH_take (i := 19) (v := undef) rfl (by kernel_rfl) (by kernel_rfl) (by kernel_rfl) (fun _ _ _ h => h) (Or.inr ⟨by simp [Region.wanted, yielded, e99_19, undef], rfl⟩) hSW ?_
  obtain ⟨a20, ha20⟩ : ∃ a20, a20 = a19.put (some 100) (undef) := ⟨_, rfl⟩
  refine wpAnyH_at ha20 ?_
  have hz20 : Hid (a20.tmps.size = 531) := put_size ha20 hz19.out
  have e16_20 := put_ne ha20 (by decide) e16_19
  have e17_20 := put_ne ha20 (by decide) e17_19
  have e15_20 := put_ne ha20 (by decide) e15_19
  have e3_20 := put_ne ha20 (by decide) e3_19
  have e81_20 := put_ne ha20 (by decide) e81_19
  have e82_20 := put_ne ha20 (by decide) e82_19
  have e83_20 := put_ne ha20 (by decide) e83_19
  have e84_20 := put_ne ha20 (by decide) e84_19
  have e85_20 := put_ne ha20 (by decide) e85_19
  have e86_20 := put_ne ha20 (by decide) e86_19
  have e87_20 := put_ne ha20 (by decide) e87_19
  have e88_20 := put_ne ha20 (by decide) e88_19
  have e89_20 := put_ne ha20 (by decide) e89_19
  have e90_20 := put_ne ha20 (by decide) e90_19
  have e91_20 := put_ne ha20 (by decide) e91_19
  have e92_20 := put_ne ha20 (by decide) e92_19
  have e93_20 := put_ne ha20 (by decide) e93_19
  have e94_20 := put_ne ha20 (by decide) e94_19
  have e95_20 := put_ne ha20 (by decide) e95_19
  have e96_20 := put_ne ha20 (by decide) e96_19
  have e97_20 := put_ne ha20 (by decide) e97_19
  have e98_20 := put_ne ha20 (by decide) e98_19
  have e99_20 := put_ne ha20 (by decide) e99_19
  have e100_20 := put_get ha20 (by rw [hz19.out]; decide)
  have Ha20 : Hid _ := ha20
  clear hz19 ha20 e16_19 e17_19 e15_19 e3_19 e81_19 e82_19 e83_19 e84_19 e85_19 e86_19 e87_19 e88_19 e89_19 e90_19 e91_19 e92_19 e93_19 e94_19 e95_19 e96_19 e97_19 e98_19 e99_19
  refine wpAnyH_take (i := 20) (v := undef) rfl (by kernel_rfl) (by kernel_rfl) (by kernel_rfl) (fun _ _ _ h => h) (Or.inr ⟨by simp [Region.wanted, yielded, e99_20, undef], rfl⟩) hSW ?_
  obtain ⟨a21, ha21⟩ : ∃ a21, a21 = a20.put (some 101) (undef) := ⟨_, rfl⟩
  refine wpAnyH_at ha21 ?_
  have hz21 : Hid (a21.tmps.size = 531) := put_size ha21 hz20.out
  have e16_21 := put_ne ha21 (by decide) e16_20
  have e17_21 := put_ne ha21 (by decide) e17_20
  have e15_21 := put_ne ha21 (by decide) e15_20
  have e3_21 := put_ne ha21 (by decide) e3_20
  have e81_21 := put_ne ha21 (by decide) e81_20
  have e82_21 := put_ne ha21 (by decide) e82_20
  have e83_21 := put_ne ha21 (by decide) e83_20
  have e84_21 := put_ne ha21 (by decide) e84_20
  have e85_21 := put_ne ha21 (by decide) e85_20
  have e86_21 := put_ne ha21 (by decide) e86_20
  have e87_21 := put_ne ha21 (by decide) e87_20
  have e88_21 := put_ne ha21 (by decide) e88_20
  have e89_21 := put_ne ha21 (by decide) e89_20
  have e90_21 := put_ne ha21 (by decide) e90_20
  have e91_21 := put_ne ha21 (by decide) e91_20
  have e92_21 := put_ne ha21 (by decide) e92_20
  have e93_21 := put_ne ha21 (by decide) e93_20
  have e94_21 := put_ne ha21 (by decide) e94_20
  have e95_21 := put_ne ha21 (by decide) e95_20
  have e96_21 := put_ne ha21 (by decide) e96_20
  have e97_21 := put_ne ha21 (by decide) e97_20
  have e98_21 := put_ne ha21 (by decide) e98_20
  have e99_21 := put_ne ha21 (by decide) e99_20
  have e100_21 := put_ne ha21 (by decide) e100_20
  have e101_21 := put_get ha21 (by rw [hz20.out]; decide)
  have Ha21 : Hid _ := ha21
  clear hz20 ha21 e16_20 e17_20 e15_20 e3_20 e81_20 e82_20 e83_20 e84_20 e85_20 e86_20 e87_20 e88_20 e89_20 e90_20 e91_20 e92_20 e93_20 e94_20 e95_20 e96_20 e97_20 e98_20 e99_20 e100_20
  refine wpAnyH_take (i := 21) (v := undef) rfl (by kernel_rfl) (by kernel_rfl) (by kernel_rfl) (fun _ _ _ h => h) (Or.inr ⟨by simp [Region.wanted, yielded, e99_21, undef], rfl⟩) hSW ?_
  obtain ⟨a22, ha22⟩ : ∃ a22, a22 = a21.put (some 102) (undef) := ⟨_, rfl⟩
  refine wpAnyH_at ha22 ?_
  have hz22 : Hid (a22.tmps.size = 531) := put_size ha22 hz21.out
  have e16_22 := put_ne ha22 (by decide) e16_21
  have e17_22 := put_ne ha22 (by decide) e17_21
  have e15_22 := put_ne ha22 (by decide) e15_21
  have e3_22 := put_ne ha22 (by decide) e3_21
  have e81_22 := put_ne ha22 (by decide) e81_21
  have e82_22 := put_ne ha22 (by decide) e82_21
  have e83_22 := put_ne ha22 (by decide) e83_21
  have e84_22 := put_ne ha22 (by decide) e84_21
  have e85_22 := put_ne ha22 (by decide) e85_21
  have e86_22 := put_ne ha22 (by decide) e86_21
  have e87_22 := put_ne ha22 (by decide) e87_21
  have e88_22 := put_ne ha22 (by decide) e88_21
  have e89_22 := put_ne ha22 (by decide) e89_21
  have e90_22 := put_ne ha22 (by decide) e90_21
  have e91_22 := put_ne ha22 (by decide) e91_21
  have e92_22 := put_ne ha22 (by decide) e92_21
  have e93_22 := put_ne ha22 (by decide) e93_21
  have e94_22 := put_ne ha22 (by decide) e94_21
  have e95_22 := put_ne ha22 (by decide) e95_21
  have e96_22 := put_ne ha22 (by decide) e96_21
  have e97_22 := put_ne ha22 (by decide) e97_21
  have e98_22 := put_ne ha22 (by decide) e98_21
  have e99_22 := put_ne ha22 (by decide) e99_21
  have e100_22 := put_ne ha22 (by decide) e100_21
  have e101_22 := put_ne ha22 (by decide) e101_21
  have e102_22 := put_get ha22 (by rw [hz21.out]; decide)
  have Ha22 : Hid _ := ha22
  clear hz21 ha22 e16_21 e17_21 e15_21 e3_21 e81_21 e82_21 e83_21 e84_21 e85_21 e86_21 e87_21 e88_21 e89_21 e90_21 e91_21 e92_21 e93_21 e94_21 e95_21 e96_21 e97_21 e98_21 e99_21 e100_21 e101_21
  refine wpAnyH_take (i := 22) (v := undef) rfl (by kernel_rfl) (by kernel_rfl) (by kernel_rfl) (fun _ _ _ h => h) (Or.inr ⟨by simp [Region.wanted, yielded, e99_22, undef], rfl⟩) hSW ?_
  obtain ⟨a23, ha23⟩ : ∃ a23, a23 = a22.put (some 103) (undef) := ⟨_, rfl⟩
  refine wpAnyH_at ha23 ?_
  have hz23 : Hid (a23.tmps.size = 531) := put_size ha23 hz22.out
  have e16_23 := put_ne ha23 (by decide) e16_22
  have e17_23 := put_ne ha23 (by decide) e17_22
  have e15_23 := put_ne ha23 (by decide) e15_22
  have e3_23 := put_ne ha23 (by decide) e3_22
  have e81_23 := put_ne ha23 (by decide) e81_22
  have e82_23 := put_ne ha23 (by decide) e82_22
  have e83_23 := put_ne ha23 (by decide) e83_22
  have e84_23 := put_ne ha23 (by decide) e84_22
  have e85_23 := put_ne ha23 (by decide) e85_22
  have e86_23 := put_ne ha23 (by decide) e86_22
  have e87_23 := put_ne ha23 (by decide) e87_22
  have e88_23 := put_ne ha23 (by decide) e88_22
  have e89_23 := put_ne ha23 (by decide) e89_22
  have e90_23 := put_ne ha23 (by decide) e90_22
  have e91_23 := put_ne ha23 (by decide) e91_22
  have e92_23 := put_ne ha23 (by decide) e92_22
  have e93_23 := put_ne ha23 (by decide) e93_22
  have e94_23 := put_ne ha23 (by decide) e94_22
  have e95_23 := put_ne ha23 (by decide) e95_22
  have e96_23 := put_ne ha23 (by decide) e96_22
  have e97_23 := put_ne ha23 (by decide) e97_22
  have e98_23 := put_ne ha23 (by decide) e98_22
  have e99_23 := put_ne ha23 (by decide) e99_22
  have e100_23 := put_ne ha23 (by decide) e100_22
  have e101_23 := put_ne ha23 (by decide) e101_22
  have e102_23 := put_ne ha23 (by decide) e102_22
  have e103_23 := put_get ha23 (by rw [hz22.out]; decide)
  have Ha23 : Hid _ := ha23
  clear hz22 ha23 e16_22 e17_22 e15_22 e3_22 e81_22 e82_22 e83_22 e84_22 e85_22 e86_22 e87_22 e88_22 e89_22 e90_22 e91_22 e92_22 e93_22 e94_22 e95_22 e96_22 e97_22 e98_22 e99_22 e100_22 e101_22 e102_22
  refine wpAnyH_take (i := 23) (v := .bool false) rfl (by kernel_rfl) (by kernel_rfl) (by kernel_rfl) (fun _ _ _ h => h) (Or.inl ⟨by simp [Region.wanted, yielded, e89_23], ?_⟩) hSW ?_
  · rintro w' k1; go_simp
  obtain ⟨a24, ha24⟩ : ∃ a24, a24 = a23.put (some 104) (.bool false) := ⟨_, rfl⟩
  refine wpAnyH_at ha24 ?_
  have hz24 : Hid (a24.tmps.size = 531) := put_size ha24 hz23.out
  have e16_24 := put_ne ha24 (by decide) e16_23
  have e17_24 := put_ne ha24 (by decide) e17_23
  have e15_24 := put_ne ha24 (by decide) e15_23
  have e3_24 := put_ne ha24 (by decide) e3_23
  have e81_24 := put_ne ha24 (by decide) e81_23
  have e82_24 := put_ne ha24 (by decide) e82_23
  have e83_24 := put_ne ha24 (by decide) e83_23
  have e84_24 := put_ne ha24 (by decide) e84_23
  have e85_24 := put_ne ha24 (by decide) e85_23
  have e86_24 := put_ne ha24 (by decide) e86_23
  have e87_24 := put_ne ha24 (by decide) e87_23
  have e88_24 := put_ne ha24 (by decide) e88_23
  have e89_24 := put_ne ha24 (by decide) e89_23
  have e90_24 := put_ne ha24 (by decide) e90_23
  have e91_24 := put_ne ha24 (by decide) e91_23
  have e92_24 := put_ne ha24 (by decide) e92_23
  have e93_24 := put_ne ha24 (by decide) e93_23
  have e94_24 := put_ne ha24 (by decide) e94_23
  have e95_24 := put_ne ha24 (by decide) e95_23
  have e96_24 := put_ne ha24 (by decide) e96_23
  have e97_24 := put_ne ha24 (by decide) e97_23
  have e98_24 := put_ne ha24 (by decide) e98_23
  have e99_24 := put_ne ha24 (by decide) e99_23
  have e100_24 := put_ne ha24 (by decide) e100_23
  have e101_24 := put_ne ha24 (by decide) e101_23
  have e102_24 := put_ne ha24 (by decide) e102_23
  have e103_24 := put_ne ha24 (by decide) e103_23
  have e104_24 := put_get ha24 (by rw [hz23.out]; decide)
  have Ha24 : Hid _ := ha24
  clear hz23 ha24 e16_23 e17_23 e15_23 e3_23 e81_23 e82_23 e83_23 e84_23 e85_23 e86_23 e87_23 e88_23 e89_23 e90_23 e91_23 e92_23 e93_23 e94_23 e95_23 e96_23 e97_23 e98_23 e99_23 e100_23 e101_23 e102_23 e103_23
  refine wpAnyH_take (i := 24) (v := .bool false) rfl (by kernel_rfl) (by kernel_rfl) (by kernel_rfl) (fun _ _ _ h => h) (Or.inl ⟨by rfl, ?_⟩) hSW ?_
  · rintro w' k1; go_simp
  obtain ⟨a25, ha25⟩ : ∃ a25, a25 = a24.put (some 105) (.bool false) := ⟨_, rfl⟩
  refine wpAnyH_at ha25 ?_
  have hz25 : Hid (a25.tmps.size = 531) := put_size ha25 hz24.out
  have e16_25 := put_ne ha25 (by decide) e16_24
  have e17_25 := put_ne ha25 (by decide) e17_24
  have e15_25 := put_ne ha25 (by decide) e15_24
  have e3_25 := put_ne ha25 (by decide) e3_24
  have e81_25 := put_ne ha25 (by decide) e81_24
  have e82_25 := put_ne ha25 (by decide) e82_24
  have e83_25 := put_ne ha25 (by decide) e83_24
  have e84_25 := put_ne ha25 (by decide) e84_24
  have e85_25 := put_ne ha25 (by decide) e85_24
  have e86_25 := put_ne ha25 (by decide) e86_24
  have e87_25 := put_ne ha25 (by decide) e87_24
  have e88_25 := put_ne ha25 (by decide) e88_24
  have e89_25 := put_ne ha25 (by decide) e89_24
  have e90_25 := put_ne ha25 (by decide) e90_24
  have e91_25 := put_ne ha25 (by decide) e91_24
  have e92_25 := put_ne ha25 (by decide) e92_24
  have e93_25 := put_ne ha25 (by decide) e93_24
  have e94_25 := put_ne ha25 (by decide) e94_24
  have e95_25 := put_ne ha25 (by decide) e95_24
  have e96_25 := put_ne ha25 (by decide) e96_24
  have e97_25 := put_ne ha25 (by decide) e97_24
  have e98_25 := put_ne ha25 (by decide) e98_24
  have e99_25 := put_ne ha25 (by decide) e99_24
  have e100_25 := put_ne ha25 (by decide) e100_24
  have e101_25 := put_ne ha25 (by decide) e101_24
  have e102_25 := put_ne ha25 (by decide) e102_24
  have e103_25 := put_ne ha25 (by decide) e103_24
  have e104_25 := put_ne ha25 (by decide) e104_24
  have e105_25 := put_get ha25 (by rw [hz24.out]; decide)
  have Ha25 : Hid _ := ha25
  clear hz24 ha25 e16_24 e17_24 e15_24 e3_24 e81_24 e82_24 e83_24 e84_24 e85_24 e86_24 e87_24 e88_24 e89_24 e90_24 e91_24 e92_24 e93_24 e94_24 e95_24 e96_24 e97_24 e98_24 e99_24 e100_24 e101_24 e102_24 e103_24 e104_24
  refine wpAnyH_take (i := 25) (v := .pointer (some ⟨Bv, i, none⟩)) rfl (by kernel_rfl) (by kernel_rfl) (by kernel_rfl) (fun _ _ _ h => h) (Or.inl ⟨by rfl, ?_⟩) hSW ?_
  · rintro w' k1; go_simp
  obtain ⟨a26, ha26⟩ : ∃ a26, a26 = a25.put (some 106) (.pointer (some ⟨Bv, i, none⟩)) := ⟨_, rfl⟩
  refine wpAnyH_at ha26 ?_
  have hz26 : Hid (a26.tmps.size = 531) := put_size ha26 hz25.out
  have e16_26 := put_ne ha26 (by decide) e16_25
  have e17_26 := put_ne ha26 (by decide) e17_25
  have e15_26 := put_ne ha26 (by decide) e15_25
  have e3_26 := put_ne ha26 (by decide) e3_25
  have e81_26 := put_ne ha26 (by decide) e81_25
  have e82_26 := put_ne ha26 (by decide) e82_25
  have e83_26 := put_ne ha26 (by decide) e83_25
  have e84_26 := put_ne ha26 (by decide) e84_25
  have e85_26 := put_ne ha26 (by decide) e85_25
  have e86_26 := put_ne ha26 (by decide) e86_25
  have e87_26 := put_ne ha26 (by decide) e87_25
  have e88_26 := put_ne ha26 (by decide) e88_25
  have e89_26 := put_ne ha26 (by decide) e89_25
  have e90_26 := put_ne ha26 (by decide) e90_25
  have e91_26 := put_ne ha26 (by decide) e91_25
  have e92_26 := put_ne ha26 (by decide) e92_25
  have e93_26 := put_ne ha26 (by decide) e93_25
  have e94_26 := put_ne ha26 (by decide) e94_25
  have e95_26 := put_ne ha26 (by decide) e95_25
  have e96_26 := put_ne ha26 (by decide) e96_25
  have e97_26 := put_ne ha26 (by decide) e97_25
  have e98_26 := put_ne ha26 (by decide) e98_25
  have e99_26 := put_ne ha26 (by decide) e99_25
  have e100_26 := put_ne ha26 (by decide) e100_25
  have e101_26 := put_ne ha26 (by decide) e101_25
  have e102_26 := put_ne ha26 (by decide) e102_25
  have e103_26 := put_ne ha26 (by decide) e103_25
  have e104_26 := put_ne ha26 (by decide) e104_25
  have e105_26 := put_ne ha26 (by decide) e105_25
  have e106_26 := put_get ha26 (by rw [hz25.out]; decide)
  have Ha26 : Hid _ := ha26
  clear hz25 ha26 e16_25 e17_25 e15_25 e3_25 e81_25 e82_25 e83_25 e84_25 e85_25 e86_25 e87_25 e88_25 e89_25 e90_25 e91_25 e92_25 e93_25 e94_25 e95_25 e96_25 e97_25 e98_25 e99_25 e100_25 e101_25 e102_25 e103_25 e104_25 e105_25
  refine wpAnyH_ready (rs := [26]) (by kernel_rfl) (by simp) ?_
  refine AllReadyH.cons rfl (fun K hK => ?_) AllReadyH.nil
  go_simp
  have hS3 : (fun w' : World => w'.cell? ⟨Bz, 2, none⟩ = some (.slice (some ⟨Bv, 0, none⟩) oldN oldN) ) (wr.drew.setCell ⟨Bv, i, none⟩ (.bool false)) := (World.cell?_of_block (a := ⟨Bz, _, none⟩) (Below.heap_setCell wr.drew _ _ _ hne)).trans hSW
  refine hK.out _ _ hS3 (fun _ => ?_)
  refine wpAnyH_done (by kernel_rfl) ?_ _
  refine NoPanic.normal ?_
  refine hQ.out _ ?_
  rw [Ha26.out, Ha25.out, Ha24.out, Ha23.out, Ha22.out, Ha21.out, Ha20.out, Ha19.out, Ha18.out, Ha17.out, Ha16.out, Ha15.out, Ha14.out, Ha13.out, Ha12.out, Ha11.out, Ha10.out, Ha9.out, Ha8.out, Ha7.out, Ha6.out, Ha5.out, Ha4.out, Ha3.out, Ha2.out, Ha1.out]


set_option maxHeartbeats 4000000 in
set_option maxRecDepth 100000 in
theorem reg17d {wr : World} {Bz Bv oldN nx i mn mc : Nat} {Bk ko : Nat} {mb : Bool} {vv : Value} {Q : Exit → Act → World → Prop} {a0 : Act} (hz0 : Hid (a0.tmps.size = 531)) (e16_0 : a0.tmps[16]? = some (.pointer (some ⟨Bz, 0, none⟩))) (e17_0 : a0.tmps[17]? = some (.int .i64 (i : Nat))) (e15_0 : a0.tmps[15]? = some (.int .i64 (nx : Nat))) (e3_0 : a0.tmps[3]? = some (.slice (some ⟨Bk, ko, none⟩) mn mc)) (hc1 : ¬ i < nx) (hc2 :  nx < i) (hc3 :  i < mn) 
    (z2 : wr.drew.cell? ⟨Bz, 2, none⟩ = some (.slice (some ⟨Bv, 0, none⟩) oldN oldN)) (kb : wr.drew.cell? ⟨Bk, ko + i, none⟩ = some (.bool mb)) (hnk : Bk ≠ Bv) (hi : i < oldN) (vc : wr.drew.cell? ⟨Bv, i, none⟩ = some vv) (vf : wr.drew.frozen? ⟨Bv, i, none⟩ = false) (hne : Bz ≠ Bv)
    (hQ : Hid (∀ (a' : Act), a' = ((((((((((((((((((((((((((a0.put (some 81) (.pointer (some ⟨Bz, 0, none⟩))).put (some 82) (.pointer (some ⟨Bz, 0, none⟩))).put (some 83) (.pointer (some ⟨Bz, 2, none⟩))).put (some 84) (.slice (some ⟨Bv, 0, none⟩) oldN oldN)).put (some 85) (.int .i64 (i : Nat))).put (some 86) (.int .i64 (i : Nat))).put (some 87) (.int .i64 (nx : Nat))).put (some 88) (.bool false)).put (some 89) (.bool false)).put (some 90) (.int .i64 (i : Nat))).put (some 91) (.int .i64 (nx : Nat))).put (some 92) (.bool true)).put (some 93) (.bool true)).put (some 94) (.int .i64 (i : Nat))).put (some 95) (.slice (some ⟨Bk, ko, none⟩) mn mc)).put (some 96) (.int .i64 (mn : Nat))).put (some 97) (.bool true)).put (some 98) (.bool true)).put (some 99) (.bool true)).put (some 100) (.slice (some ⟨Bk, ko, none⟩) mn mc)).put (some 101) (.int .i64 (i : Nat))).put (some 102) (.pointer (some ⟨Bk, ko + i, none⟩))).put (some 103) (.bool mb)).put (some 104) (.bool mb)).put (some 105) (.bool mb)).put (some 106) (.pointer (some ⟨Bv, i, none⟩))) → Q .normal a' (wr.drew.setCell ⟨Bv, i, none⟩ (.bool mb)))) :
    Code.wp Yba.prog (regOf 17 (bodyOf Yba.f3)) Q a0 wr := by
  conv => arg 2; whnf
  have hSW : (fun w' : World => w'.cell? ⟨Bz, 2, none⟩ = some (.slice (some ⟨Bv, 0, none⟩) oldN oldN) ∧ w'.cell? ⟨Bk, ko + i, none⟩ = some (.bool mb)) wr.drew := ⟨z2, kb⟩
  refine wp_region_noPanic ?_
  refine wp_region_held_drew (S := (fun w' : World => w'.cell? ⟨Bz, 2, none⟩ = some (.slice (some ⟨Bv, 0, none⟩) oldN oldN) ∧ w'.cell? ⟨Bk, ko + i, none⟩ = some (.bool mb))) (by kernel_rfl) hSW (fun _ => ?_)
  refine wpAnyH_take (i := 0) (v := .pointer (some ⟨Bz, 0, none⟩)) rfl (by kernel_rfl) (by kernel_rfl) (by kernel_rfl) (fun _ _ _ h => h) (Or.inl ⟨by rfl, ?_⟩) hSW ?_
  · rintro w' ⟨k1, k2⟩; go_simp
  obtain ⟨a1, ha1⟩ : ∃ a1, a1 = a0.put (some 81) (.pointer (some ⟨Bz, 0, none⟩)) := ⟨_, rfl⟩
  refine wpAnyH_at ha1 ?_
  have hz1 : Hid (a1.tmps.size = 531) := put_size ha1 hz0.out
  have e16_1 := put_ne ha1 (by decide) e16_0
  have e17_1 := put_ne ha1 (by decide) e17_0
  have e15_1 := put_ne ha1 (by decide) e15_0
  have e3_1 := put_ne ha1 (by decide) e3_0
  have e81_1 := put_get ha1 (by rw [hz0.out]; decide)
  have Ha1 : Hid _ := ha1
  clear hz0 ha1 e16_0 e17_0 e15_0 e3_0
  refine wpAnyH_take (i := 1) (v := .pointer (some ⟨Bz, 0, none⟩)) rfl (by kernel_rfl) (by kernel_rfl) (by kernel_rfl) (fun _ _ _ h => h) (Or.inl ⟨by rfl, ?_⟩) hSW ?_
  · rintro w' ⟨k1, k2⟩; go_simp
  obtain ⟨a2, ha2⟩ : ∃ a2, a2 = a1.put (some 82) (.pointer (some ⟨Bz, 0, none⟩)) := ⟨_, rfl⟩
  refine wpAnyH_at ha2 ?_
  have hz2 : Hid (a2.tmps.size = 531) := put_size ha2 hz1.out
  have e16_2 := put_ne ha2 (by decide) e16_1
  have e17_2 := put_ne ha2 (by decide) e17_1
  have e15_2 := put_ne ha2 (by decide) e15_1
  have e3_2 := put_ne ha2 (by decide) e3_1
  have e81_2 := put_ne ha2 (by decide) e81_1
  have e82_2 := put_get ha2 (by rw [hz1.out]; decide)
  have Ha2 : Hid _ := ha2
  clear hz1 ha2 e16_1 e17_1 e15_1 e3_1 e81_1
  refine wpAnyH_take (i := 2) (v := .pointer (some ⟨Bz, 2, none⟩)) rfl (by kernel_rfl) (by kernel_rfl) (by kernel_rfl) (fun _ _ _ h => h) (Or.inl ⟨by rfl, ?_⟩) hSW ?_
  · rintro w' ⟨k1, k2⟩; go_simp
  obtain ⟨a3, ha3⟩ : ∃ a3, a3 = a2.put (some 83) (.pointer (some ⟨Bz, 2, none⟩)) := ⟨_, rfl⟩
  refine wpAnyH_at ha3 ?_
  have hz3 : Hid (a3.tmps.size = 531) := put_size ha3 hz2.out
  have e16_3 := put_ne ha3 (by decide) e16_2
  have e17_3 := put_ne ha3 (by decide) e17_2
  have e15_3 := put_ne ha3 (by decide) e15_2
  have e3_3 := put_ne ha3 (by decide) e3_2
  have e81_3 := put_ne ha3 (by decide) e81_2
  have e82_3 := put_ne ha3 (by decide) e82_2
  have e83_3 := put_get ha3 (by rw [hz2.out]; decide)
  have Ha3 : Hid _ := ha3
  clear hz2 ha3 e16_2 e17_2 e15_2 e3_2 e81_2 e82_2
  refine wpAnyH_take (i := 3) (v := .slice (some ⟨Bv, 0, none⟩) oldN oldN) rfl (by kernel_rfl) (by kernel_rfl) (by kernel_rfl) (fun _ _ _ h => h) (Or.inl ⟨by rfl, ?_⟩) hSW ?_
  · rintro w' ⟨k1, k2⟩; go_simp
  obtain ⟨a4, ha4⟩ : ∃ a4, a4 = a3.put (some 84) (.slice (some ⟨Bv, 0, none⟩) oldN oldN) := ⟨_, rfl⟩
  refine wpAnyH_at ha4 ?_
  have hz4 : Hid (a4.tmps.size = 531) := put_size ha4 hz3.out
  have e16_4 := put_ne ha4 (by decide) e16_3
  have e17_4 := put_ne ha4 (by decide) e17_3
  have e15_4 := put_ne ha4 (by decide) e15_3
  have e3_4 := put_ne ha4 (by decide) e3_3
  have e81_4 := put_ne ha4 (by decide) e81_3
  have e82_4 := put_ne ha4 (by decide) e82_3
  have e83_4 := put_ne ha4 (by decide) e83_3
  have e84_4 := put_get ha4 (by rw [hz3.out]; decide)
  have Ha4 : Hid _ := ha4
  clear hz3 ha4 e16_3 e17_3 e15_3 e3_3 e81_3 e82_3 e83_3
  refine wpAnyH_take (i := 4) (v := .int .i64 (i : Nat)) rfl (by kernel_rfl) (by kernel_rfl) (by kernel_rfl) (fun _ _ _ h => h) (Or.inl ⟨by rfl, ?_⟩) hSW ?_
  · rintro w' ⟨k1, k2⟩; go_simp
  obtain ⟨a5, ha5⟩ : ∃ a5, a5 = a4.put (some 85) (.int .i64 (i : Nat)) := ⟨_, rfl⟩
  refine wpAnyH_at ha5 ?_
  have hz5 : Hid (a5.tmps.size = 531) := put_size ha5 hz4.out
  have e16_5 := put_ne ha5 (by decide) e16_4
  have e17_5 := put_ne ha5 (by decide) e17_4
  have e15_5 := put_ne ha5 (by decide) e15_4
  have e3_5 := put_ne ha5 (by decide) e3_4
  have e81_5 := put_ne ha5 (by decide) e81_4
  have e82_5 := put_ne ha5 (by decide) e82_4
  have e83_5 := put_ne ha5 (by decide) e83_4
  have e84_5 := put_ne ha5 (by decide) e84_4
  have e85_5 := put_get ha5 (by rw [hz4.out]; decide)
  have Ha5 : Hid _ := ha5
  clear hz4 ha5 e16_4 e17_4 e15_4 e3_4 e81_4 e82_4 e83_4 e84_4
  refine wpAnyH_take (i := 5) (v := .int .i64 (i : Nat)) rfl (by kernel_rfl) (by kernel_rfl) (by kernel_rfl) (fun _ _ _ h => h) (Or.inl ⟨by rfl, ?_⟩) hSW ?_
  · rintro w' ⟨k1, k2⟩; go_simp
  obtain ⟨a6, ha6⟩ : ∃ a6, a6 = a5.put (some 86) (.int .i64 (i : Nat)) := ⟨_, rfl⟩
  refine wpAnyH_at ha6 ?_
  have hz6 : Hid (a6.tmps.size = 531) := put_size ha6 hz5.out
  have e16_6 := put_ne ha6 (by decide) e16_5
  have e17_6 := put_ne ha6 (by decide) e17_5
  have e15_6 := put_ne ha6 (by decide) e15_5
  have e3_6 := put_ne ha6 (by decide) e3_5
  have e81_6 := put_ne ha6 (by decide) e81_5
  have e82_6 := put_ne ha6 (by decide) e82_5
  have e83_6 := put_ne ha6 (by decide) e83_5
  have e84_6 := put_ne ha6 (by decide) e84_5
  have e85_6 := put_ne ha6 (by decide) e85_5
  have e86_6 := put_get ha6 (by rw [hz5.out]; decide)
  have Ha6 : Hid _ := ha6
  clear hz5 ha6 e16_5 e17_5 e15_5 e3_5 e81_5 e82_5 e83_5 e84_5 e85_5
  refine wpAnyH_take (i := 6) (v := .int .i64 (nx : Nat)) rfl (by kernel_rfl) (by kernel_rfl) (by kernel_rfl) (fun _ _ _ h => h) (Or.inl ⟨by rfl, ?_⟩) hSW ?_
  · rintro w' ⟨k1, k2⟩; go_simp
  obtain ⟨a7, ha7⟩ : ∃ a7, a7 = a6.put (some 87) (.int .i64 (nx : Nat)) := ⟨_, rfl⟩
  refine wpAnyH_at ha7 ?_
  have hz7 : Hid (a7.tmps.size = 531) := put_size ha7 hz6.out
  have e16_7 := put_ne ha7 (by decide) e16_6
  have e17_7 := put_ne ha7 (by decide) e17_6
  have e15_7 := put_ne ha7 (by decide) e15_6
  have e3_7 := put_ne ha7 (by decide) e3_6
  have e81_7 := put_ne ha7 (by decide) e81_6
  have e82_7 := put_ne ha7 (by decide) e82_6
  have e83_7 := put_ne ha7 (by decide) e83_6
  have e84_7 := put_ne ha7 (by decide) e84_6
  have e85_7 := put_ne ha7 (by decide) e85_6
  have e86_7 := put_ne ha7 (by decide) e86_6
  have e87_7 := put_get ha7 (by rw [hz6.out]; decide)
  have Ha7 : Hid _ := ha7
  clear hz6 ha7 e16_6 e17_6 e15_6 e3_6 e81_6 e82_6 e83_6 e84_6 e85_6 e86_6
  refine wpAnyH_take (i := 7) (v := .bool false) rfl (by kernel_rfl) (by kernel_rfl) (by kernel_rfl) (fun _ _ _ h => h) (Or.inl ⟨by rfl, ?_⟩) hSW ?_
  · rintro w' ⟨k1, k2⟩; go_simp
  obtain ⟨a8, ha8⟩ : ∃ a8, a8 = a7.put (some 88) (.bool false) := ⟨_, rfl⟩
  refine wpAnyH_at ha8 ?_
  have hz8 : Hid (a8.tmps.size = 531) := put_size ha8 hz7.out
  have e16_8 := put_ne ha8 (by decide) e16_7
  have e17_8 := put_ne ha8 (by decide) e17_7
  have e15_8 := put_ne ha8 (by decide) e15_7
  have e3_8 := put_ne ha8 (by decide) e3_7
  have e81_8 := put_ne ha8 (by decide) e81_7
  have e82_8 := put_ne ha8 (by decide) e82_7
  have e83_8 := put_ne ha8 (by decide) e83_7
  have e84_8 := put_ne ha8 (by decide) e84_7
  have e85_8 := put_ne ha8 (by decide) e85_7
  have e86_8 := put_ne ha8 (by decide) e86_7
  have e87_8 := put_ne ha8 (by decide) e87_7
  have e88_8 := put_get ha8 (by rw [hz7.out]; decide)
  have Ha8 : Hid _ := ha8
  clear hz7 ha8 e16_7 e17_7 e15_7 e3_7 e81_7 e82_7 e83_7 e84_7 e85_7 e86_7 e87_7
  refine wpAnyH_take (i := 8) (v := .bool false) rfl (by kernel_rfl) (by kernel_rfl) (by kernel_rfl) (fun _ _ _ h => h) (Or.inl ⟨by rfl, ?_⟩) hSW ?_
  · rintro w' ⟨k1, k2⟩; go_simp
  obtain ⟨a9, ha9⟩ : ∃ a9, a9 = a8.put (some 89) (.bool false) := ⟨_, rfl⟩
  refine wpAnyH_at ha9 ?_
  have hz9 : Hid (a9.tmps.size = 531) := put_size ha9 hz8.out
  have e16_9 := put_ne ha9 (by decide) e16_8
  have e17_9 := put_ne ha9 (by decide) e17_8
  have e15_9 := put_ne ha9 (by decide) e15_8
  have e3_9 := put_ne ha9 (by decide) e3_8
  have e81_9 := put_ne ha9 (by decide) e81_8
  have e82_9 := put_ne ha9 (by decide) e82_8
  have e83_9 := put_ne ha9 (by decide) e83_8
  have e84_9 := put_ne ha9 (by decide) e84_8
  have e85_9 := put_ne ha9 (by decide) e85_8
  have e86_9 := put_ne ha9 (by decide) e86_8
  have e87_9 := put_ne ha9 (by decide) e87_8
  have e88_9 := put_ne ha9 (by decide) e88_8
  have e89_9 := put_get ha9 (by rw [hz8.out]; decide)
  have Ha9 : Hid _ := ha9
  clear hz8 ha9 e16_8 e17_8 e15_8 e3_8 e81_8 e82_8 e83_8 e84_8 e85_8 e86_8 e87_8 e88_8
  refine wpAnyH_take (i := 9) (v := .int .i64 (i : Nat)) rfl (by kernel_rfl) (by kernel_rfl) (by kernel_rfl) (fun _ _ _ h => h) (Or.inl ⟨by simp [Region.wanted, yielded, e89_9], ?_⟩) hSW ?_
  · rintro w' ⟨k1, k2⟩; go_simp
  obtain ⟨a10, ha10⟩ : ∃ a10, a10 = a9.put (some 90) (.int .i64 (i : Nat)) := ⟨_, rfl⟩
  refine wpAnyH_at ha10 ?_
  have hz10 : Hid (a10.tmps.size = 531) := put_size ha10 hz9.out
  have e16_10 := put_ne ha10 (by decide) e16_9
  have e17_10 := put_ne ha10 (by decide) e17_9
  have e15_10 := put_ne ha10 (by decide) e15_9
  have e3_10 := put_ne ha10 (by decide) e3_9
  have e81_10 := put_ne ha10 (by decide) e81_9
  have e82_10 := put_ne ha10 (by decide) e82_9
  have e83_10 := put_ne ha10 (by decide) e83_9
  have e84_10 := put_ne ha10 (by decide) e84_9
  have e85_10 := put_ne ha10 (by decide) e85_9
  have e86_10 := put_ne ha10 (by decide) e86_9
  have e87_10 := put_ne ha10 (by decide) e87_9
  have e88_10 := put_ne ha10 (by decide) e88_9
  have e89_10 := put_ne ha10 (by decide) e89_9
  have e90_10 := put_get ha10 (by rw [hz9.out]; decide)
  have Ha10 : Hid _ := ha10
  clear hz9 ha10 e16_9 e17_9 e15_9 e3_9 e81_9 e82_9 e83_9 e84_9 e85_9 e86_9 e87_9 e88_9 e89_9
  refine wpAnyH_take (i := 10) (v := .int .i64 (nx : Nat)) rfl (by kernel_rfl) (by kernel_rfl) (by kernel_rfl) (fun _ _ _ h => h) (Or.inl ⟨by simp [Region.wanted, yielded, e89_10], ?_⟩) hSW ?_
  · rintro w' ⟨k1, k2⟩; go_simp
  obtain ⟨a11, ha11⟩ : ∃ a11, a11 = a10.put (some 91) (.int .i64 (nx : Nat)) := ⟨_, rfl⟩
  refine wpAnyH_at ha11 ?_
  have hz11 : Hid (a11.tmps.size = 531) := put_size ha11 hz10.out
  have e16_11 := put_ne ha11 (by decide) e16_10
  have e17_11 := put_ne ha11 (by decide) e17_10
  have e15_11 := put_ne ha11 (by decide) e15_10
  have e3_11 := put_ne ha11 (by decide) e3_10
  have e81_11 := put_ne ha11 (by decide) e81_10
  have e82_11 := put_ne ha11 (by decide) e82_10
  have e83_11 := put_ne ha11 (by decide) e83_10
  have e84_11 := put_ne ha11 (by decide) e84_10
  have e85_11 := put_ne ha11 (by decide) e85_10
  have e86_11 := put_ne ha11 (by decide) e86_10
  have e87_11 := put_ne ha11 (by decide) e87_10
  have e88_11 := put_ne ha11 (by decide) e88_10
  have e89_11 := put_ne ha11 (by decide) e89_10
  have e90_11 := put_ne ha11 (by decide) e90_10
  have e91_11 := put_get ha11 (by rw [hz10.out]; decide)
  have Ha11 : Hid _ := ha11
  clear hz10 ha11 e16_10 e17_10 e15_10 e3_10 e81_10 e82_10 e83_10 e84_10 e85_10 e86_10 e87_10 e88_10 e89_10 e90_10
  refine wpAnyH_take (i := 11) (v := .bool true) rfl (by kernel_rfl) (by kernel_rfl) (by kernel_rfl) (fun _ _ _ h => h) (Or.inl ⟨by simp [Region.wanted, yielded, e89_11], ?_⟩) hSW ?_
  · rintro w' ⟨k1, k2⟩; go_simp
  obtain ⟨a12, ha12⟩ : ∃ a12, a12 = a11.put (some 92) (.bool true) := ⟨_, rfl⟩
  refine wpAnyH_at ha12 ?_
  have hz12 : Hid (a12.tmps.size = 531) := put_size ha12 hz11.out
  have e16_12 := put_ne ha12 (by decide) e16_11
  have e17_12 := put_ne ha12 (by decide) e17_11
  have e15_12 := put_ne ha12 (by decide) e15_11
  have e3_12 := put_ne ha12 (by decide) e3_11
  have e81_12 := put_ne ha12 (by decide) e81_11
  have e82_12 := put_ne ha12 (by decide) e82_11
  have e83_12 := put_ne ha12 (by decide) e83_11
  have e84_12 := put_ne ha12 (by decide) e84_11
  have e85_12 := put_ne ha12 (by decide) e85_11
  have e86_12 := put_ne ha12 (by decide) e86_11
  have e87_12 := put_ne ha12 (by decide) e87_11
  have e88_12 := put_ne ha12 (by decide) e88_11
  have e89_12 := put_ne ha12 (by decide) e89_11
  have e90_12 := put_ne ha12 (by decide) e90_11
  have e91_12 := put_ne ha12 (by decide) e91_11
  have e92_12 := put_get ha12 (by rw [hz11.out]; decide)
  have Ha12 : Hid _ := ha12
  clear hz11 ha12 e16_11 e17_11 e15_11 e3_11 e81_11 e82_11 e83_11 e84_11 e85_11 e86_11 e87_11 e88_11 e89_11 e90_11 e91_11
  refine wpAnyH_take (i := 12) (v := .bool true) rfl (by kernel_rfl) (by kernel_rfl) (by kernel_rfl) (fun _ _ _ h => h) (Or.inl ⟨by simp [Region.wanted, yielded, e89_12], ?_⟩) hSW ?_
  · rintro w' ⟨k1, k2⟩; go_simp
  obtain ⟨a13, ha13⟩ : ∃ a13, a13 = a12.put (some 93) (.bool true) := ⟨_, rfl⟩
  refine wpAnyH_at ha13 ?_
  have hz13 : Hid (a13.tmps.size = 531) := put_size ha13 hz12.out
  have e16_13 := put_ne ha13 (by decide) e16_12
  have e17_13 := put_ne ha13 (by decide) e17_12
  have e15_13 := put_ne ha13 (by decide) e15_12
  have e3_13 := put_ne ha13 (by decide) e3_12
  have e81_13 := put_ne ha13 (by decide) e81_12
  have e82_13 := put_ne ha13 (by decide) e82_12
  have e83_13 := put_ne ha13 (by decide) e83_12
  have e84_13 := put_ne ha13 (by decide) e84_12
  have e85_13 := put_ne ha13 (by decide) e85_12
  have e86_13 := put_ne ha13 (by decide) e86_12
  have e87_13 := put_ne ha13 (by decide) e87_12
  have e88_13 := put_ne ha13 (by decide) e88_12
  have e89_13 := put_ne ha13 (by decide) e89_12
  have e90_13 := put_ne ha13 (by decide) e90_12
  have e91_13 := put_ne ha13 (by decide) e91_12
  have e92_13 := put_ne ha13 (by decide) e92_12
  have e93_13 := put_get ha13 (by rw [hz12.out]; decide)
  have Ha13 : Hid _ := ha13
  clear hz12 ha13 e16_12 e17_12 e15_12 e3_12 e81_12 e82_12 e83_12 e84_12 e85_12 e86_12 e87_12 e88_12 e89_12 e90_12 e91_12 e92_12
  refine wpAnyH_take (i := 13) (v := .int .i64 (i : Nat)) rfl (by kernel_rfl) (by kernel_rfl) (by kernel_rfl) (fun _ _ _ h => h) (Or.inl ⟨by simp [Region.wanted, yielded, e93_13], ?_⟩) hSW ?_
  · rintro w' ⟨k1, k2⟩; go_simp
  obtain ⟨a14, ha14⟩ : ∃ a14, a14 = a13.put (some 94) (.int .i64 (i : Nat)) := ⟨_, rfl⟩
  refine wpAnyH_at ha14 ?_
  have hz14 : Hid (a14.tmps.size = 531) := put_size ha14 hz13.out
  have e16_14 := put_ne ha14 (by decide) e16_13
  have e17_14 := put_ne ha14 (by decide) e17_13
  have e15_14 := put_ne ha14 (by decide) e15_13
  have e3_14 := put_ne ha14 (by decide) e3_13
  have e81_14 := put_ne ha14 (by decide) e81_13
  have e82_14 := put_ne ha14 (by decide) e82_13
  have e83_14 := put_ne ha14 (by decide) e83_13
  have e84_14 := put_ne ha14 (by decide) e84_13
  have e85_14 := put_ne ha14 (by decide) e85_13
  have e86_14 := put_ne ha14 (by decide) e86_13
  have e87_14 := put_ne ha14 (by decide) e87_13
  have e88_14 := put_ne ha14 (by decide) e88_13
  have e89_14 := put_ne ha14 (by decide) e89_13
  have e90_14 := put_ne ha14 (by decide) e90_13
  have e91_14 := put_ne ha14 (by decide) e91_13
  have e92_14 := put_ne ha14 (by decide) e92_13
  have e93_14 := put_ne ha14 (by decide) e93_13
  have e94_14 := put_get ha14 (by rw [hz13.out]; decide)
  have Ha14 : Hid _ := ha14
  clear hz13 ha14 e16_13 e17_13 e15_13 e3_13 e81_13 e82_13 e83_13 e84_13 e85_13 e86_13 e87_13 e88_13 e89_13 e90_13 e91_13 e92_13 e93_13
  refine wpAnyH_take (i := 14) (v := .slice (some ⟨Bk, ko, none⟩) mn mc) rfl (by kernel_rfl) (by kernel_rfl) (by kernel_rfl) (fun _ _ _ h => h) (Or.inl ⟨by simp [Region.wanted, yielded, e93_14], ?_⟩) hSW ?_
  · rintro w' ⟨k1, k2⟩; go_simp
  obtain ⟨a15, ha15⟩ : ∃ a15, a15 = a14.put (some 95) (.slice (some ⟨Bk, ko, none⟩) mn mc) := ⟨_, rfl⟩
  refine wpAnyH_at ha15 ?_
  have hz15 : Hid (a15.tmps.size = 531) := put_size ha15 hz14.out
  have e16_15 := put_ne ha15 (by decide) e16_14
  have e17_15 := put_ne ha15 (by decide) e17_14
  have e15_15 := put_ne ha15 (by decide) e15_14
  have e3_15 := put_ne ha15 (by decide) e3_14
  have e81_15 := put_ne ha15 (by decide) e81_14
  have e82_15 := put_ne ha15 (by decide) e82_14
  have e83_15 := put_ne ha15 (by decide) e83_14
  have e84_15 := put_ne ha15 (by decide) e84_14
  have e85_15 := put_ne ha15 (by decide) e85_14
  have e86_15 := put_ne ha15 (by decide) e86_14
  have e87_15 := put_ne ha15 (by decide) e87_14
  have e88_15 := put_ne ha15 (by decide) e88_14
  have e89_15 := put_ne ha15 (by decide) e89_14
  have e90_15 := put_ne ha15 (by decide) e90_14
  have e91_15 := put_ne ha15 (by decide) e91_14
  have e92_15 := put_ne ha15 (by decide) e92_14
  have e93_15 := put_ne ha15 (by decide) e93_14
  have e94_15 := put_ne ha15 (by decide) e94_14
  have e95_15 := put_get ha15 (by rw [hz14.out]; decide)
  have Ha15 : Hid _ := ha15
  clear hz14 ha15 e16_14 e17_14 e15_14 e3_14 e81_14 e82_14 e83_14 e84_14 e85_14 e86_14 e87_14 e88_14 e89_14 e90_14 e91_14 e92_14 e93_14 e94_14
  refine wpAnyH_take (i := 15) (v := .int .i64 (mn : Nat)) rfl (by kernel_rfl) (by kernel_rfl) (by kernel_rfl) (fun _ _ _ h => h) (Or.inl ⟨by simp [Region.wanted, yielded, e93_15], ?_⟩) hSW ?_
  · rintro w' ⟨k1, k2⟩; go_simp
  obtain ⟨a16, ha16⟩ : ∃ a16, a16 = a15.put (some 96) (.int .i64 (mn : Nat)) := ⟨_, rfl⟩
  refine wpAnyH_at ha16 ?_
  have hz16 : Hid (a16.tmps.size = 531) := put_size ha16 hz15.out
  have e16_16 := put_ne ha16 (by decide) e16_15
  have e17_16 := put_ne ha16 (by decide) e17_15
  have e15_16 := put_ne ha16 (by decide) e15_15
  have e3_16 := put_ne ha16 (by decide) e3_15
  have e81_16 := put_ne ha16 (by decide) e81_15
  have e82_16 := put_ne ha16 (by decide) e82_15
  have e83_16 := put_ne ha16 (by decide) e83_15
  have e84_16 := put_ne ha16 (by decide) e84_15
  have e85_16 := put_ne ha16 (by decide) e85_15
  have e86_16 := put_ne ha16 (by decide) e86_15
  have e87_16 := put_ne ha16 (by decide) e87_15
  have e88_16 := put_ne ha16 (by decide) e88_15
  have e89_16 := put_ne ha16 (by decide) e89_15
  have e90_16 := put_ne ha16 (by decide) e90_15
  have e91_16 := put_ne ha16 (by decide) e91_15
  have e92_16 := put_ne ha16 (by decide) e92_15
  have e93_16 := put_ne ha16 (by decide) e93_15
  have e94_16 := put_ne ha16 (by decide) e94_15
  have e95_16 := put_ne ha16 (by decide) e95_15
  have e96_16 := put_get ha16 (by rw [hz15.out]; decide)
  have Ha16 : Hid _ := ha16
  clear hz15 ha16 e16_15 e17_15 e15_15 e3_15 e81_15 e82_15 e83_15 e84_15 e85_15 e86_15 e87_15 e88_15 e89_15 e90_15 e91_15 e92_15 e93_15 e94_15 e95_15
  refine wpAnyH_take (i := 16) (v := .bool true) rfl (by kernel_rfl) (by kernel_rfl) (by kernel_rfl) (fun _ _ _ h => h) (Or.inl ⟨by simp [Region.wanted, yielded, e93_16], ?_⟩) hSW ?_
  · rintro w' ⟨k1, k2⟩; go_simp
  obtain ⟨a17, ha17⟩ : ∃ a17, a17 = a16.put (some 97) (.bool true) := ⟨_, rfl⟩
  refine wpAnyH_at ha17 ?_
  have hz17 : Hid (a17.tmps.size = 531) := put_size ha17 hz16.out
  have e16_17 := put_ne ha17 (by decide) e16_16
  have e17_17 := put_ne ha17 (by decide) e17_16
  have e15_17 := put_ne ha17 (by decide) e15_16
  have e3_17 := put_ne ha17 (by decide) e3_16
  have e81_17 := put_ne ha17 (by decide) e81_16
  have e82_17 := put_ne ha17 (by decide) e82_16
  have e83_17 := put_ne ha17 (by decide) e83_16
  have e84_17 := put_ne ha17 (by decide) e84_16
  have e85_17 := put_ne ha17 (by decide) e85_16
  have e86_17 := put_ne ha17 (by decide) e86_16
  have e87_17 := put_ne ha17 (by decide) e87_16
  have e88_17 := put_ne ha17 (by decide) e88_16
  have e89_17 := put_ne ha17 (by decide) e89_16
  have e90_17 := put_ne ha17 (by decide) e90_16
  have e91_17 := put_ne ha17 (by decide) e91_16
  have e92_17 := put_ne ha17 (by decide) e92_16
  have e93_17 := put_ne ha17 (by decide) e93_16
  have e94_17 := put_ne ha17 (by decide) e94_16
  have e95_17 := put_ne ha17 (by decide) e95_16
  have e96_17 := put_ne ha17 (by decide) e96_16
  have e97_17 := put_get ha17 (by rw [hz16.out]; decide)
  have Ha17 : Hid _ := ha17
  clear hz16 ha17 e16_16 e17_16 e15_16 e3_16 e81_16 e82_16 e83_16 e84_16 e85_16 e86_16 e87_16 e88_16 e89_16 e90_16 e91_16 e92_16 e93_16 e94_16 e95_16 e96_16
  refine wpAnyH_take (i := 17) (v := .bool true) rfl (by kernel_rfl) (by kernel_rfl) (by kernel_rfl) (fun _ _ _ h => h) (Or.inl ⟨by simp [Region.wanted, yielded, e89_17], ?_⟩) hSW ?_
  · rintro w' ⟨k1, k2⟩; go_simp
  obtain ⟨a18, ha18⟩ : ∃ a18, a18 = a17.put (some 98) (.bool true) := ⟨_, rfl⟩
  refine wpAnyH_at ha18 ?_
  have hz18 : Hid (a18.tmps.size = 531) := put_size ha18 hz17.out
  have e16_18 := put_ne ha18 (by decide) e16_17
  have e17_18 := put_ne ha18 (by decide) e17_17
  have e15_18 := put_ne ha18 (by decide) e15_17
  have e3_18 := put_ne ha18 (by decide) e3_17
  have e81_18 := put_ne ha18 (by decide) e81_17
  have e82_18 := put_ne ha18 (by decide) e82_17
  have e83_18 := put_ne ha18 (by decide) e83_17
  have e84_18 := put_ne ha18 (by decide) e84_17
  have e85_18 := put_ne ha18 (by decide) e85_17
  have e86_18 := put_ne ha18 (by decide) e86_17
  have e87_18 := put_ne ha18 (by decide) e87_17
  have e88_18 := put_ne ha18 (by decide) e88_17
  have e89_18 := put_ne ha18 (by decide) e89_17
  have e90_18 := put_ne ha18 (by decide) e90_17
  have e91_18 := put_ne ha18 (by decide) e91_17
  have e92_18 := put_ne ha18 (by decide) e92_17
  have e93_18 := put_ne ha18 (by decide) e93_17
  have e94_18 := put_ne ha18 (by decide) e94_17
  have e95_18 := put_ne ha18 (by decide) e95_17
  have e96_18 := put_ne ha18 (by decide) e96_17
  have e97_18 := put_ne ha18 (by decide) e97_17
  have e98_18 := put_get ha18 (by rw [hz17.out]; decide)
  have Ha18 : Hid _ := ha18
  clear hz17 ha18 e16_17 e17_17 e15_17 e3_17 e81_17 e82_17 e83_17 e84_17 e85_17 e86_17 e87_17 e88_17 e89_17 e90_17 e91_17 e92_17 e93_17 e94_17 e95_17 e96_17 e97_17
  refine wpAnyH_take (i := 18) (v := .bool true) rfl (by kernel_rfl) (by kernel_rfl) (by kernel_rfl) (fun _ _ _ h => h) (Or.inl ⟨by simp [Region.wanted, yielded, e89_18], ?_⟩) hSW ?_
  · rintro w' ⟨k1, k2⟩; go_simp
  obtain ⟨a19, ha19⟩ : ∃ a19, a19 = a18.put (some 99) (.bool true) := ⟨_, rfl⟩
  refine wpAnyH_at ha19 ?_
  have hz19 : Hid (a19.tmps.size = 531) := put_size ha19 hz18.out
  have e16_19 := put_ne ha19 (by decide) e16_18
  have e17_19 := put_ne ha19 (by decide) e17_18
  have e15_19 := put_ne ha19 (by decide) e15_18
  have e3_19 := put_ne ha19 (by decide) e3_18
  have e81_19 := put_ne ha19 (by decide) e81_18
  have e82_19 := put_ne ha19 (by decide) e82_18
  have e83_19 := put_ne ha19 (by decide) e83_18
  have e84_19 := put_ne ha19 (by decide) e84_18
  have e85_19 := put_ne ha19 (by decide) e85_18
  have e86_19 := put_ne ha19 (by decide) e86_18
  have e87_19 := put_ne ha19 (by decide) e87_18
  have e88_19 := put_ne ha19 (by decide) e88_18
  have e89_19 := put_ne ha19 (by decide) e89_18
  have e90_19 := put_ne ha19 (by decide) e90_18
  have e91_19 := put_ne ha19 (by decide) e91_18
  have e92_19 := put_ne ha19 (by decide) e92_18
  have e93_19 := put_ne ha19 (by decide) e93_18
  have e94_19 := put_ne ha19 (by decide) e94_18
  have e95_19 := put_ne ha19 (by decide) e95_18
  have e96_19 := put_ne ha19 (by decide) e96_18
  have e97_19 := put_ne ha19 (by decide) e97_18
  have e98_19 := put_ne ha19 (by decide) e98_18
  have e99_19 := put_get ha19 (by rw [hz18.out]; decide)
  have Ha19 : Hid _ := ha19
  clear hz18 ha19 e16_18 e17_18 e15_18 e3_18 e81_18 e82_18 e83_18 e84_18 e85_18 e86_18 e87_18 e88_18 e89_18 e90_18 e91_18 e92_18 e93_18 e94_18 e95_18 e96_18 e97_18 e98_18
  refine wpAnyH_take (i := 19) (v := .slice (some ⟨Bk, ko, none⟩) mn mc) rfl (by kernel_rfl) (by kernel_rfl) (by kernel_rfl) (fun _ _ _ h => h) (Or.inl ⟨by simp [Region.wanted, yielded, e99_19], ?_⟩) hSW ?_
  · rintro w' ⟨k1, k2⟩; go_simp
  obtain ⟨a20, ha20⟩ : ∃ a20, a20 = a19.put (some 100) (.slice (some ⟨Bk, ko, none⟩) mn mc) := ⟨_, rfl⟩
  refine wpAnyH_at ha20 ?_
  have hz20 : Hid (a20.tmps.size = 531) := put_size ha20 hz19.out
  have e16_20 := put_ne ha20 (by decide) e16_19
  have e17_20 := put_ne ha20 (by decide) e17_19
  have e15_20 := put_ne ha20 (by decide) e15_19
  have e3_20 := put_ne ha20 (by decide) e3_19
  have e81_20 := put_ne ha20 (by decide) e81_19
  have e82_20 := put_ne ha20 (by decide) e82_19
  have e83_20 := put_ne ha20 (by decide) e83_19
  have e84_20 := put_ne ha20 (by decide) e84_19
  have e85_20 := put_ne ha20 (by decide) e85_19
  have e86_20 := put_ne ha20 (by decide) e86_19
  have e87_20 := put_ne ha20 (by decide) e87_19
  have e88_20 := put_ne ha20 (by decide) e88_19
  have e89_20 := put_ne ha20 (by decide) e89_19
  have e90_20 := put_ne ha20 (by decide) e90_19
  have e91_20 := put_ne ha20 (by decide) e91_19
  have e92_20 := put_ne ha20 (by decide) e92_19
  have e93_20 := put_ne ha20 (by decide) e93_19
  have e94_20 := put_ne ha20 (by decide) e94_19
  have e95_20 := put_ne ha20 (by decide) e95_19
  have e96_20 := put_ne ha20 (by decide) e96_19
  have e97_20 := put_ne ha20 (by decide) e97_19
  have e98_20 := put_ne ha20 (by decide) e98_19
  have e99_20 := put_ne ha20 (by decide) e99_19
  have e100_20 := put_get ha20 (by rw [hz19.out]; decide)
  have Ha20 : Hid _ := ha20
  clear hz19 ha20 e16_19 e17_19 e15_19 e3_19 e81_19 e82_19 e83_19 e84_19 e85_19 e86_19 e87_19 e88_19 e89_19 e90_19 e91_19 e92_19 e93_19 e94_19 e95_19 e96_19 e97_19 e98_19 e99_19
  refine wpAnyH_take (i := 20) (v := .int .i64 (i : Nat)) rfl (by kernel_rfl) (by kernel_rfl) (by kernel_rfl) (fun _ _ _ h => h) (Or.inl ⟨by simp [Region.wanted, yielded, e99_20], ?_⟩) hSW ?_
  · rintro w' ⟨k1, k2⟩; go_simp
  obtain ⟨a21, ha21⟩ : ∃ a21, a21 = a20.put (some 101) (.int .i64 (i : Nat)) := ⟨_, rfl⟩
  refine wpAnyH_at ha21 ?_
  have hz21 : Hid (a21.tmps.size = 531) := put_size ha21 hz20.out
  have e16_21 := put_ne ha21 (by decide) e16_20
  have e17_21 := put_ne ha21 (by decide) e17_20
  have e15_21 := put_ne ha21 (by decide) e15_20
  have e3_21 := put_ne ha21 (by decide) e3_20
  have e81_21 := put_ne ha21 (by decide) e81_20
  have e82_21 := put_ne ha21 (by decide) e82_20
  have e83_21 := put_ne ha21 (by decide) e83_20
  have e84_21 := put_ne ha21 (by decide) e84_20
  have e85_21 := put_ne ha21 (by decide) e85_20
  have e86_21 := put_ne ha21 (by decide) e86_20
  have e87_21 := put_ne ha21 (by decide) e87_20
  have e88_21 := put_ne ha21 (by decide) e88_20
  have e89_21 := put_ne ha21 (by decide) e89_20
  have e90_21 := put_ne ha21 (by decide) e90_20
  have e91_21 := put_ne ha21 (by decide) e91_20
  have e92_21 := put_ne ha21 (by decide) e92_20
  have e93_21 := put_ne ha21 (by decide) e93_20
  have e94_21 := put_ne ha21 (by decide) e94_20
  have e95_21 := put_ne ha21 (by decide) e95_20
  have e96_21 := put_ne ha21 (by decide) e96_20
  have e97_21 := put_ne ha21 (by decide) e97_20
  have e98_21 := put_ne ha21 (by decide) e98_20
  have e99_21 := put_ne ha21 (by decide) e99_20
  have e100_21 := put_ne ha21 (by decide) e100_20
  have e101_21 := put_get ha21 (by rw [hz20.out]; decide)
  have Ha21 : Hid _ := ha21
  clear hz20 ha21 e16_20 e17_20 e15_20 e3_20 e81_20 e82_20 e83_20 e84_20 e85_20 e86_20 e87_20 e88_20 e89_20 e90_20 e91_20 e92_20 e93_20 e94_20 e95_20 e96_20 e97_20 e98_20 e99_20 e100_20
  refine wpAnyH_take (i := 21) (v := .pointer (some ⟨Bk, ko + i, none⟩)) rfl (by kernel_rfl) (by kernel_rfl) (by kernel_rfl) (fun _ _ _ h => h) (Or.inl ⟨by simp [Region.wanted, yielded, e99_21], ?_⟩) hSW ?_
  · rintro w' ⟨k1, k2⟩; go_simp
  obtain ⟨a22, ha22⟩ : ∃ a22, a22 = a21.put (some 102) (.pointer (some ⟨Bk, ko + i, none⟩)) := ⟨_, rfl⟩
  refine wpAnyH_at ha22 ?_
  have hz22 : Hid (a22.tmps.size = 531) := put_size ha22 hz21.out
  have e16_22 := put_ne ha22 (by decide) e16_21
  have e17_22 := put_ne ha22 (by decide) e17_21
  have e15_22 := put_ne ha22 (by decide) e15_21
  have e3_22 := put_ne ha22 (by decide) e3_21
  have e81_22 := put_ne ha22 (by decide) e81_21
  have e82_22 := put_ne ha22 (by decide) e82_21
  have e83_22 := put_ne ha22 (by decide) e83_21
  have e84_22 := put_ne ha22 (by decide) e84_21
  have e85_22 := put_ne ha22 (by decide) e85_21
  have e86_22 := put_ne ha22 (by decide) e86_21
  have e87_22 := put_ne ha22 (by decide) e87_21
  have e88_22 := put_ne ha22 (by decide) e88_21
  have e89_22 := put_ne ha22 (by decide) e89_21
  have e90_22 := put_ne ha22 (by decide) e90_21
  have e91_22 := put_ne ha22 (by decide) e91_21
  have e92_22 := put_ne ha22 (by decide) e92_21
  have e93_22 := put_ne ha22 (by decide) e93_21
  have e94_22 := put_ne ha22 (by decide) e94_21
  have e95_22 := put_ne ha22 (by decide) e95_21
  have e96_22 := put_ne ha22 (by decide) e96_21
  have e97_22 := put_ne ha22 (by decide) e97_21
  have e98_22 := put_ne ha22 (by decide) e98_21
  have e99_22 := put_ne ha22 (by decide) e99_21
  have e100_22 := put_ne ha22 (by decide) e100_21
  have e101_22 := put_ne ha22 (by decide) e101_21
  have e102_22 := put_get ha22 (by rw [hz21.out]; decide)
  have Ha22 : Hid _ := ha22
  clear hz21 ha22 e16_21 e17_21 e15_21 e3_21 e81_21 e82_21 e83_21 e84_21 e85_21 e86_21 e87_21 e88_21 e89_21 e90_21 e91_21 e92_21 e93_21 e94_21 e95_21 e96_21 e97_21 e98_21 e99_21 e100_21 e101_21
  refine wpAnyH_take (i := 22) (v := .bool mb) rfl (by kernel_rfl) (by kernel_rfl) (by kernel_rfl) (fun _ _ _ h => h) (Or.inl ⟨by simp [Region.wanted, yielded, e99_22], ?_⟩) hSW ?_
  · rintro w' ⟨k1, k2⟩; go_simp
  obtain ⟨a23, ha23⟩ : ∃ a23, a23 = a22.put (some 103) (.bool mb) := ⟨_, rfl⟩
  refine wpAnyH_at ha23 ?_
  have hz23 : Hid (a23.tmps.size = 531) := put_size ha23 hz22.out
  have e16_23 := put_ne ha23 (by decide) e16_22
  have e17_23 := put_ne ha23 (by decide) e17_22
  have e15_23 := put_ne ha23 (by decide) e15_22
  have e3_23 := put_ne ha23 (by decide) e3_22
  have e81_23 := put_ne ha23 (by decide) e81_22
  have e82_23 := put_ne ha23 (by decide) e82_22
  have e83_23 := put_ne ha23 (by decide) e83_22
  have e84_23 := put_ne ha23 (by decide) e84_22
  have e85_23 := put_ne ha23 (by decide) e85_22
  have e86_23 := put_ne ha23 (by decide) e86_22
  have e87_23 := put_ne ha23 (by decide) e87_22
  have e88_23 := put_ne ha23 (by decide) e88_22
  have e89_23 := put_ne ha23 (by decide) e89_22
  have e90_23 := put_ne ha23 (by decide) e90_22
  have e91_23 := put_ne ha23 (by decide) e91_22
  have e92_23 := put_ne ha23 (by decide) e92_22
  have e93_23 := put_ne ha23 (by decide) e93_22
  have e94_23 := put_ne ha23 (by decide) e94_22
  have e95_23 := put_ne ha23 (by decide) e95_22
  have e96_23 := put_ne ha23 (by decide) e96_22
  have e97_23 := put_ne ha23 (by decide) e97_22
  have e98_23 := put_ne ha23 (by decide) e98_22
  have e99_23 := put_ne ha23 (by decide) e99_22
  have e100_23 := put_ne ha23 (by decide) e100_22
  have e101_23 := put_ne ha23 (by decide) e101_22
  have e102_23 := put_ne ha23 (by decide) e102_22
  have e103_23 := put_get ha23 (by rw [hz22.out]; decide)
  have Ha23 : Hid _ := ha23
  clear hz22 ha23 e16_22 e17_22 e15_22 e3_22 e81_22 e82_22 e83_22 e84_22 e85_22 e86_22 e87_22 e88_22 e89_22 e90_22 e91_22 e92_22 e93_22 e94_22 e95_22 e96_22 e97_22 e98_22 e99_22 e100_22 e101_22 e102_22
  refine wpAnyH_take (i := 23) (v := .bool mb) rfl (by kernel_rfl) (by kernel_rfl) (by kernel_rfl) (fun _ _ _ h => h) (Or.inl ⟨by simp [Region.wanted, yielded, e89_23], ?_⟩) hSW ?_
  · rintro w' ⟨k1, k2⟩; go_simp
  obtain ⟨a24, ha24⟩ : ∃ a24, a24 = a23.put (some 104) (.bool mb) := ⟨_, rfl⟩
  refine wpAnyH_at ha24 ?_
  have hz24 : Hid (a24.tmps.size = 531) := put_size ha24 hz23.out
  have e16_24 := put_ne ha24 (by decide) e16_23
  have e17_24 := put_ne ha24 (by decide) e17_23
  have e15_24 := put_ne ha24 (by decide) e15_23
  have e3_24 := put_ne ha24 (by decide) e3_23
  have e81_24 := put_ne ha24 (by decide) e81_23
  have e82_24 := put_ne ha24 (by decide) e82_23
  have e83_24 := put_ne ha24 (by decide) e83_23
  have e84_24 := put_ne ha24 (by decide) e84_23
  have e85_24 := put_ne ha24 (by decide) e85_23
  have e86_24 := put_ne ha24 (by decide) e86_23
  have e87_24 := put_ne ha24 (by decide) e87_23
  have e88_24 := put_ne ha24 (by decide) e88_23
  have e89_24 := put_ne ha24 (by decide) e89_23
  have e90_24 := put_ne ha24 (by decide) e90_23
  have e91_24 := put_ne ha24 (by decide) e91_23
  have e92_24 := put_ne ha24 (by decide) e92_23
  have e93_24 := put_ne ha24 (by decide) e93_23
  have e94_24 := put_ne ha24 (by decide) e94_23
  have e95_24 := put_ne ha24 (by decide) e95_23
  have e96_24 := put_ne ha24 (by decide) e96_23
  have e97_24 := put_ne ha24 (by decide) e97_23
  have e98_24 := put_ne ha24 (by decide) e98_23
  have e99_24 := put_ne ha24 (by decide) e99_23
  have e100_24 := put_ne ha24 (by decide) e100_23
  have e101_24 := put_ne ha24 (by decide) e101_23
  have e102_24 := put_ne ha24 (by decide) e102_23
  have e103_24 := put_ne ha24 (by decide) e103_23
  have e104_24 := put_get ha24 (by rw [hz23.out]; decide)
  have Ha24 : Hid _ := ha24
  clear hz23 ha24 e16_23 e17_23 e15_23 e3_23 e81_23 e82_23 e83_23 e84_23 e85_23 e86_23 e87_23 e88_23 e89_23 e90_23 e91_23 e92_23 e93_23 e94_23 e95_23 e96_23 e97_23 e98_23 e99_23 e100_23 e101_23 e102_23 e103_23
  refine wpAnyH_take (i := 24) (v := .bool mb) rfl (by kernel_rfl) (by kernel_rfl) (by kernel_rfl) (fun _ _ _ h => h) (Or.inl ⟨by rfl, ?_⟩) hSW ?_
  · rintro w' ⟨k1, k2⟩; go_simp
  obtain ⟨a25, ha25⟩ : ∃ a25, a25 = a24.put (some 105) (.bool mb) := ⟨_, rfl⟩
  refine wpAnyH_at ha25 ?_
  have hz25 : Hid (a25.tmps.size = 531) := put_size ha25 hz24.out
  have e16_25 := put_ne ha25 (by decide) e16_24
  have e17_25 := put_ne ha25 (by decide) e17_24
  have e15_25 := put_ne ha25 (by decide) e15_24
  have e3_25 := put_ne ha25 (by decide) e3_24
  have e81_25 := put_ne ha25 (by decide) e81_24
  have e82_25 := put_ne ha25 (by decide) e82_24
  have e83_25 := put_ne ha25 (by decide) e83_24
  have e84_25 := put_ne ha25 (by decide) e84_24
  have e85_25 := put_ne ha25 (by decide) e85_24
  have e86_25 := put_ne ha25 (by decide) e86_24
  have e87_25 := put_ne ha25 (by decide) e87_24
  have e88_25 := put_ne ha25 (by decide) e88_24
  have e89_25 := put_ne ha25 (by decide) e89_24
  have e90_25 := put_ne ha25 (by decide) e90_24
  have e91_25 := put_ne ha25 (by decide) e91_24
  have e92_25 := put_ne ha25 (by decide) e92_24
  have e93_25 := put_ne ha25 (by decide) e93_24
  have e94_25 := put_ne ha25 (by decide) e94_24
  have e95_25 := put_ne ha25 (by decide) e95_24
  have e96_25 := put_ne ha25 (by decide) e96_24
  have e97_25 := put_ne ha25 (by decide) e97_24
  have e98_25 := put_ne ha25 (by decide) e98_24
  have e99_25 := put_ne ha25 (by decide) e99_24
  have e100_25 := put_ne ha25 (by decide) e100_24
  have e101_25 := put_ne ha25 (by decide) e101_24
  have e102_25 := put_ne ha25 (by decide) e102_24
  have e103_25 := put_ne ha25 (by decide) e103_24
  have e104_25 := put_ne ha25 (by decide) e104_24
  have e105_25 := put_get ha25 (by rw [hz24.out]; decide)
  have Ha25 : Hid _ := ha25
  clear hz24 ha25 e16_24 e17_24 e15_24 e3_24 e81_24 e82_24 e83_24 e84_24 e85_24 e86_24 e87_24 e88_24 e89_24 e90_24 e91_24 e92_24 e93_24 e94_24 e95_24 e96_24 e97_24 e98_24 e99_24 e100_24 e101_24 e102_24 e103_24 e104_24
  refine wpAnyH_take (i := 25) (v := .pointer (some ⟨Bv, i, none⟩)) rfl (by kernel_rfl) (by kernel_rfl) (by kernel_rfl) (fun _ _ _ h => h) (Or.inl ⟨by rfl, ?_⟩) hSW ?_
  · rintro w' ⟨k1, k2⟩; go_simp
  obtain ⟨a26, ha26⟩ : ∃ a26, a26 = a25.put (some 106) (.pointer (some ⟨Bv, i, none⟩)) := ⟨_, rfl⟩
  refine wpAnyH_at ha26 ?_
  have hz26 : Hid (a26.tmps.size = 531) := put_size ha26 hz25.out
  have e16_26 := put_ne ha26 (by decide) e16_25
  have e17_26 := put_ne ha26 (by decide) e17_25
  have e15_26 := put_ne ha26 (by decide) e15_25
  have e3_26 := put_ne ha26 (by decide) e3_25
  have e81_26 := put_ne ha26 (by decide) e81_25
  have e82_26 := put_ne ha26 (by decide) e82_25
  have e83_26 := put_ne ha26 (by decide) e83_25
  have e84_26 := put_ne ha26 (by decide) e84_25
  have e85_26 := put_ne ha26 (by decide) e85_25
  have e86_26 := put_ne ha26 (by decide) e86_25
  have e87_26 := put_ne ha26 (by decide) e87_25
  have e88_26 := put_ne ha26 (by decide) e88_25
  have e89_26 := put_ne ha26 (by decide) e89_25
  have e90_26 := put_ne ha26 (by decide) e90_25
  have e91_26 := put_ne ha26 (by decide) e91_25
  have e92_26 := put_ne ha26 (by decide) e92_25
  have e93_26 := put_ne ha26 (by decide) e93_25
  have e94_26 := put_ne ha26 (by decide) e94_25
  have e95_26 := put_ne ha26 (by decide) e95_25
  have e96_26 := put_ne ha26 (by decide) e96_25
  have e97_26 := put_ne ha26 (by decide) e97_25
  have e98_26 := put_ne ha26 (by decide) e98_25
  have e99_26 := put_ne ha26 (by decide) e99_25
  have e100_26 := put_ne ha26 (by decide) e100_25
  have e101_26 := put_ne ha26 (by decide) e101_25
  have e102_26 := put_ne ha26 (by decide) e102_25
  have e103_26 := put_ne ha26 (by decide) e103_25
  have e104_26 := put_ne ha26 (by decide) e104_25
  have e105_26 := put_ne ha26 (by decide) e105_25
  have e106_26 := put_get ha26 (by rw [hz25.out]; decide)
  have Ha26 : Hid _ := ha26
  clear hz25 ha26 e16_25 e17_25 e15_25 e3_25 e81_25 e82_25 e83_25 e84_25 e85_25 e86_25 e87_25 e88_25 e89_25 e90_25 e91_25 e92_25 e93_25 e94_25 e95_25 e96_25 e97_25 e98_25 e99_25 e100_25 e101_25 e102_25 e103_25 e104_25 e105_25
  refine wpAnyH_ready (rs := [26]) (by kernel_rfl) (by simp) ?_
  refine AllReadyH.cons rfl (fun K hK => ?_) AllReadyH.nil
  go_simp
  have hS3 : (fun w' : World => w'.cell? ⟨Bz, 2, none⟩ = some (.slice (some ⟨Bv, 0, none⟩) oldN oldN) ∧ w'.cell? ⟨Bk, ko + i, none⟩ = some (.bool mb)) (wr.drew.setCell ⟨Bv, i, none⟩ (.bool mb)) := ⟨(World.cell?_of_block (a := ⟨Bz, _, none⟩) (Below.heap_setCell wr.drew _ _ _ hne)).trans hSW.1, (World.cell?_of_block (a := ⟨Bk, _, none⟩) (Below.heap_setCell wr.drew _ _ _ hnk)).trans hSW.2⟩
  refine hK.out _ _ hS3 (fun _ => ?_)
  refine wpAnyH_done (by kernel_rfl) ?_ _
  refine NoPanic.normal ?_
  refine hQ.out _ ?_
  rw [Ha26.out, Ha25.out, Ha24.out, Ha23.out, Ha22.out, Ha21.out, Ha20.out, Ha19.out, Ha18.out, Ha17.out, Ha16.out, Ha15.out, Ha14.out, Ha13.out, Ha12.out, Ha11.out, Ha10.out, Ha9.out, Ha8.out, Ha7.out, Ha6.out, Ha5.out, Ha4.out, Ha3.out, Ha2.out, Ha1.out]


end Go.Proofs.Ybulkeaqa
