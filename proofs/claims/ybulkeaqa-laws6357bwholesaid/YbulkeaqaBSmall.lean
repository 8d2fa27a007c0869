/- S6357B: the table's and the map's small functions. -/
import Derived.Test.YbulkeaqaBIter
namespace Go.Proofs.Ybulkeaqa
open Go.RowKit
set_option linter.unusedSimpArgs false

@[go_sem] theorem eql44 (a : Option Addr) (l c : Nat) (w : World) : (binOp .eql 44 (.slice a l c) (.slice none 0 0)).run Yba.prog w = .ok (.bool a.isNone) w := Go.run_eql_slice_nil w 44 80 a l c Yba.underlying44
@[go_sem] theorem neq44 (a : Option Addr) (l c : Nat) (w : World) : (binOp .neq 44 (.slice a l c) (.slice none 0 0)).run Yba.prog w = .ok (.bool (!a.isNone)) w := Go.run_neq_slice_nil w 44 80 a l c Yba.underlying44

/-- A table of at most 512 buckets, its row in block R. -/
structure Tab (w : World) (B o n R : Nat) : Prop where
  n0 : w.cell? ⟨B, o, none⟩ = some (.int .i64 n)
  n1 : w.cell? ⟨B, o + 1, none⟩ = some (.slice (some ⟨R, 0, none⟩) n n)
  n2 : w.cell? ⟨B, o + 2, none⟩ = some (.slice none 0 0)

theorem len_any (B o : Nat) (n : Nat) (w : World) (h : w.cell? ⟨B, o, none⟩ = some (.int .i64 n)) : Calls Yba.prog 15 #[.pointer (some ⟨B, o, none⟩)] w fun e w' => e = .returned (.int .i64 n) ∧ w = w' := by
  go_enter Yba.func15, Yba.ntmps15
  go_wp2
  go_ret
  exact ⟨rfl, rfl⟩

theorem and_mask (h e : Nat) (hh : h < 18446744073709551616) (he : e ≤ 10) : bits .and .u64 (h : Int) (((2 ^ e : Nat) : Int) - 1) = ((h % 2 ^ e : Nat) : Int) := by
  have hp : 0 < 2 ^ e := Nat.two_pow_pos e
  have hp2 : 2 ^ e ≤ 2 ^ 10 := Nat.pow_le_pow_right (by decide) he
  have e1 : (((2 ^ e : Nat) : Int) - 1) = ((2 ^ e - 1 : Nat) : Int) := by omega
  rw [e1, bits_and_u64_nat h (2 ^ e - 1) hh (by omega), Nat.and_two_pow_sub_one_eq_mod]

theorem index_any (h e n : Nat) (w : World) (hh : h < 18446744073709551616) (he : e ≤ 10) (hn : n = 2 ^ e) : Calls Yba.prog 14 #[.int .u64 h, .int .i64 n] w fun r w' => r = .returned (.int .i64 (h % n : Nat)) ∧ w = w' := by
  have hp : 0 < 2 ^ e := Nat.two_pow_pos e
  have hp2 : 2 ^ e ≤ 2 ^ 10 := Nat.pow_le_pow_right (by decide) he
  have hm := and_mask h e hh he
  rw [← hn] at hm hp hp2
  have hw : IntKind.u64.wrap ((n : Int) - 1) = (n : Int) - 1 := by rw [IntKind.wrap_u64]; omega
  have hlt : h % n < n := Nat.mod_lt _ hp
  have hw2 : wrap64 (((h % n : Nat) : Int)) = ((h % n : Nat) : Int) := by unfold wrap64; omega
  have HM : Hid (bits .and .u64 (h : Int) ((n : Int) - 1) = ((h % n : Nat) : Int)) := hm
  have HW : Hid _ := hw2
  clear hm hn hw2
  go_enter Yba.func14, Yba.ntmps14
  go_wp2
  go_ret
  refine ⟨?_, rfl⟩
  show Ending.returned (Value.int .i64 (wrap64 (bits .and .u64 (h : Int) ((n : Int) - 1)))) = _
  rw [HM.out, HW.out]

theorem bmoved_any (B o t : Nat) (w : World) (h : w.cell? ⟨B, o, none⟩ = some (.int .u8 t)) : Calls Yba.prog 22 #[.pointer (some ⟨B, o, none⟩)] w fun e w' => e = .returned (.bool ((t : Int) == 1)) ∧ w = w' := by
  go_enter Yba.func22, Yba.ntmps22
  go_wp2
  go_ret
  exact ⟨rfl, rfl⟩

theorem moved_any (B o n R i t : Nat) (w : World) (hT : Tab w B o n R) (hi : i < n) (_hn : n ≤ 1000) (h : w.cell? ⟨R, i * 25, none⟩ = some (.int .u8 t)) : Calls Yba.prog 16 #[.pointer (some ⟨B, o, none⟩), .int .i64 i] w fun e w' => e = .returned (.bool ((t : Int) == 1)) ∧ w = w' := by
  obtain ⟨n0, n1, n2⟩ := hT
  go_enter Yba.func16, Yba.ntmps16
  go_wp2_with (go_at_call 22; refine (bmoved_any R (i * 25) t _ h).mono ?_; rintro e w2 ⟨rfl, rfl⟩)
  go_ret
  exact ⟨rfl, rfl⟩

theorem tat_any (B o n R i : Nat) (w : World) (hT : Tab w B o n R) (hi : i < n) (_hn : n ≤ 1000) : Calls Yba.prog 24 #[.pointer (some ⟨B, o, none⟩), .int .i64 i] w fun e w' => e = .returned (.pointer (some ⟨R, i * 25, none⟩)) ∧ w = w' := by
  obtain ⟨n0, n1, n2⟩ := hT
  go_enter Yba.func24, Yba.ntmps24
  go_wp2
  go_ret
  exact ⟨rfl, rfl⟩

theorem allocate_any (B o n R i : Nat) (w : World) (hT : Tab w B o n R) : Calls Yba.prog 25 #[.pointer (some ⟨B, o, none⟩), .int .i64 i] w fun e w' => e = .returned (.tuple #[]) ∧ w = w' := by
  obtain ⟨n0, n1, n2⟩ := hT
  go_enter Yba.func25, Yba.ntmps25
  go_wp2
  exact bodyPost_ret (results_none rfl _ _ _) rfl ⟨rfl, rfl⟩

theorem indexAt_any (B o n R i : Nat) (w : World) (hT : Tab w B o n R) : Calls Yba.prog 19 #[.pointer (some ⟨B, o, none⟩), .int .i64 i] w fun e w' => e = .returned (.int .i64 i) ∧ w = w' := by
  obtain ⟨n0, n1, n2⟩ := hT
  go_enter Yba.func19, Yba.ntmps19
  go_wp2
  go_ret
  exact ⟨rfl, rfl⟩

theorem release_any (B o n R i : Nat) (w : World) (hT : Tab w B o n R) : Calls Yba.prog 28 #[.pointer (some ⟨B, o, none⟩), .int .i64 i] w fun e w' => e = .returned (.tuple #[]) ∧ w = w' := by
  obtain ⟨n0, n1, n2⟩ := hT
  go_enter Yba.func28, Yba.ntmps28
  go_wp2
  go_end0
  exact ⟨rfl, rfl⟩

theorem migrating_any (B n : Nat) (w : World) (h : w.cell? ⟨B, 6, none⟩ = some (.int .i64 n)) : Calls Yba.prog 18 #[.pointer (some ⟨B, 0, none⟩)] w fun e w' => e = .returned (.bool (decide (0 < n))) ∧ w = w' := by
  go_enter Yba.func18, Yba.ntmps18
  go_wp2_with (go_at_call 15; refine (len_any B 6 n _ h).mono ?_; rintro e w2 ⟨rfl, rfl⟩)
  go_ret
  refine ⟨?_, rfl⟩
  simp

theorem entries_any (p : Option Addr) (w : World) : Calls Yba.prog 26 #[.pointer p] w fun e w' => e = .returned (.func (.func 29) #[] #[.pointer (some ⟨w.heap.size, 0, none⟩)]) ∧ w' = w.alloc (.cells #[.pointer p] 37) := by
  go_enter Yba.func26, Yba.ntmps26
  go_wp2
  go_ret
  exact ⟨rfl, rfl⟩

theorem hash_any (k Bc c : Nat) (w : World) (h : w.cell? ⟨Bc, 0, none⟩ = some (.int .i64 c)) (hf : w.frozen? ⟨Bc, 0, none⟩ = false) (_hc : c ≤ 1000000) : Calls Yba.prog 6 #[.int .u64 k, .pointer (some ⟨Bc, 0, none⟩)] w fun e w' => e = .returned (.int .u64 k) ∧ w' = w.setCell ⟨Bc, 0, none⟩ (.int .i64 ((c : Int) + 1)) := by
  go_enter Yba.func6, Yba.ntmps6
  go_wp2
  go_ret
  exact ⟨rfl, rfl⟩
end Go.Proofs.Ybulkeaqa
