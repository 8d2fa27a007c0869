/- S6357B: the model's move, behind its loop. -/
import Derived.Test.YbulkeaqaBLists
namespace Go.Proofs.Ybulkeaqa
open Go.RowKit Go.Shelf
set_option linter.unusedSimpArgs false
attribute [local go_sem] Oper.semAt_some

theorem zF_next (z : ZG) (oldN newN next : Nat) (ended : Bool) (mig ov hc : Nat) (v : Nat) (k : Nat) (hk : k < 10) : upd (zF z oldN newN next ended mig ov hc) 5 (.int .i64 v) k = zF z oldN newN v ended mig ov hc k := by
  rcases (show k = 0 ∨ k = 1 ∨ k = 2 ∨ k = 3 ∨ k = 4 ∨ k = 5 ∨ k = 6 ∨ k = 7 ∨ k = 8 ∨ k = 9 by omega) with rfl | rfl | rfl | rfl | rfl | rfl | rfl | rfl | rfl | rfl <;> rfl
theorem zF_end (z : ZG) (oldN newN next : Nat) (ended : Bool) (mig ov hc : Nat) (v : Bool) (k : Nat) (hk : k < 10) : upd (zF z oldN newN next ended mig ov hc) 6 (.bool v) k = zF z oldN newN next v mig ov hc k := by
  rcases (show k = 0 ∨ k = 1 ∨ k = 2 ∨ k = 3 ∨ k = 4 ∨ k = 5 ∨ k = 6 ∨ k = 7 ∨ k = 8 ∨ k = 9 by omega) with rfl | rfl | rfl | rfl | rfl | rfl | rfl | rfl | rfl | rfl <;> rfl
theorem zF_mig (z : ZG) (oldN newN next : Nat) (ended : Bool) (mig ov hc : Nat) (v : Nat) (k : Nat) (hk : k < 10) : upd (zF z oldN newN next ended mig ov hc) 7 (.int .u64 v) k = zF z oldN newN next ended v ov hc k := by
  rcases (show k = 0 ∨ k = 1 ∨ k = 2 ∨ k = 3 ∨ k = 4 ∨ k = 5 ∨ k = 6 ∨ k = 7 ∨ k = 8 ∨ k = 9 by omega) with rfl | rfl | rfl | rfl | rfl | rfl | rfl | rfl | rfl | rfl <;> rfl
theorem zF_ov (z : ZG) (oldN newN next : Nat) (ended : Bool) (mig ov hc : Nat) (v : Nat) (k : Nat) (hk : k < 10) : upd (zF z oldN newN next ended mig ov hc) 8 (.int .i64 v) k = zF z oldN newN next ended mig v hc k := by
  rcases (show k = 0 ∨ k = 1 ∨ k = 2 ∨ k = 3 ∨ k = 4 ∨ k = 5 ∨ k = 6 ∨ k = 7 ∨ k = 8 ∨ k = 9 by omega) with rfl | rfl | rfl | rfl | rfl | rfl | rfl | rfl | rfl | rfl <;> rfl
theorem zF_hc (z : ZG) (oldN newN next : Nat) (ended : Bool) (mig ov hc : Nat) (v : Nat) (k : Nat) (hk : k < 10) : upd (zF z oldN newN next ended mig ov hc) 9 (.int .i64 v) k = zF z oldN newN next ended mig ov v k := by
  rcases (show k = 0 ∨ k = 1 ∨ k = 2 ∨ k = 3 ∨ k = 4 ∨ k = 5 ∨ k = 6 ∨ k = 7 ∨ k = 8 ∨ k = 9 by omega) with rfl | rfl | rfl | rfl | rfl | rfl | rfl | rfl | rfl | rfl <;> rfl

set_option maxHeartbeats 4000000 in
set_option maxRecDepth 100000 in
theorem model_tail {z : ZG} {oldN newN next mig ov hc i : Nat} {w : World} {mv : Nat → Bool} {VO : Nat → Value} {x2 x3 x4 x5 x6 x7 x8 x9 x10 x11 x12 x13 x14 x15 x16 x17 x18 x19 x20 x21 x22 x23 x24 x25 x26 x27 x28 x29 x30 x31 x32 x33 x34 x35 x36 x37 x38 x39 x40 x41 x42 x43 x44 x45 x46 x47 x48 x49 x50 x51 x52 x53 x54 x55 x56 x57 x58 x59 x60 x61 x62 x63 x64 x65 x66 x67 x68 x69 x70 x71 x72 x73 x74 x75 x76 x77 x78 x79 x80 x81 x82 x83 x84 x85 x86 x87 x88 x89 x90 x91 x92 x93 x94 x95 x96 x97 x98 x99 x100 x101 x102 x103 x104 x105 x106 x107 x108 x109 x110 x111 x112 x113 x114 x115 x116 x117 x118 x119 x120 x121 x122 x123 x124 x125 x126 x127 x128 x129 x130 x131 x132 x133 x134 x135 x136 x137 x138 x139 x140 x141 x142 x143 x144 x145 x146 x147 x148 x149 x150 x151 x152 x153 x154 x155 : Value} (hi : i < oldN) (ho : oldN ≤ 16) (hnx : next < oldN) (hmig : mig ≤ 500) (hz : Row w z.Bz 10 28 (zF z oldN newN next false mig ov hc)) (hm : Row w z.Bv oldN 4 (fun j => .bool (mv j))) (hl : Row w z.Bol oldN 32 VO) :
    Code.wp Yba.prog (dropSeq 3 (bodyOf Yba.f8)) (bodyPost Yba.prog Yba.f8 fun e w' => e = .returned (.tuple #[]) ∧ ∃ nx, Swept (fun j => decide (j = i) || mv j) oldN next nx ∧ Row w' z.Bz 10 28 (zF z oldN newN nx (decide (nx = oldN)) (mig + 1) ov hc) ∧ Row w' z.Bv oldN 4 (fun j => .bool (decide (j = i) || mv j)) ∧ Row w' z.Bol oldN 32 (upd VO i (.slice none 0 0)) ∧ Stay w.heap.size (fun b => b = z.Bz ∨ b = z.Bv ∨ b = z.Bol) w w')
      { tmps := #[.pointer (some ⟨z.Bz, 0, none⟩), .int .i64 i, x2, x3, x4, x5, x6, x7, x8, x9, x10, x11, x12, x13, x14, x15, x16, x17, x18, x19, x20, x21, x22, x23, x24, x25, x26, x27, x28, x29, x30, x31, x32, x33, x34, x35, x36, x37, x38, x39, x40, x41, x42, x43, x44, x45, x46, x47, x48, x49, x50, x51, x52, x53, x54, x55, x56, x57, x58, x59, x60, x61, x62, x63, x64, x65, x66, x67, x68, x69, x70, x71, x72, x73, x74, x75, x76, x77, x78, x79, x80, x81, x82, x83, x84, x85, x86, x87, x88, x89, x90, x91, x92, x93, x94, x95, x96, x97, x98, x99, x100, x101, x102, x103, x104, x105, x106, x107, x108, x109, x110, x111, x112, x113, x114, x115, x116, x117, x118, x119, x120, x121, x122, x123, x124, x125, x126, x127, x128, x129, x130, x131, x132, x133, x134, x135, x136, x137, x138, x139, x140, x141, x142, x143, x144, x145, x146, x147, x148, x149, x150, x151, x152, x153, x154, x155], defers := [] } w := by
  have hzv := hz.ne hm (by decide)
  have hzl := hz.ne hl (by decide)
  have hvl := hm.ne hl (by decide)
  have HZ : Hid (Row w z.Bz 10 28 (zF z oldN newN next false mig ov hc)) := hz
  have HM : Hid (Row w z.Bv oldN 4 (fun j => .bool (mv j))) := hm
  have HL : Hid (Row w z.Bol oldN 32 VO) := hl
  conv => arg 2; whnf
  have a3 : w.cell? ⟨z.Bz, 3, none⟩ = some (.slice (some ⟨z.Bol, 0, none⟩) oldN oldN) := hz.cell (by omega)
  have a4 := hl.cell hi
  have a4f := hl.frozen (k := i)
  clear hz hm hl
  go_upto_region 15 with (fail)
  have S1 : Stay w.heap.size (fun b => b = z.Bz ∨ b = z.Bv ∨ b = z.Bol) w (w.setCell ⟨z.Bol, i, none⟩ (.slice none 0 0)) := (Stay.refl _ _ w).set _ (.inr (.inr (.inr rfl)))
  have Z1 := HZ.out.other (k := i) (.slice none 0 0) hzl
  have M1 := HM.out.other (k := i) (.slice none 0 0) hvl
  have L1 := HL.out.set (k := i) (.slice none 0 0)
  clear HZ HM HL
  generalize w.setCell ⟨z.Bol, i, none⟩ (.slice none 0 0) = w1 at S1 Z1 M1 L1 ⊢
  have b2 : w1.cell? ⟨z.Bz, 2, none⟩ = some (.slice (some ⟨z.Bv, 0, none⟩) oldN oldN) := Z1.cell (by omega)
  have b4 := M1.cell hi
  have b4f := M1.frozen (k := i)
  have H1 : Hid (Stay w.heap.size (fun b => b = z.Bz ∨ b = z.Bv ∨ b = z.Bol) w w1 ∧ Row w1 z.Bz 10 28 (zF z oldN newN next false mig ov hc) ∧ Row w1 z.Bv oldN 4 (fun j => .bool (mv j)) ∧ Row w1 z.Bol oldN 32 (upd VO i (.slice none 0 0))) := ⟨S1, Z1, M1, L1⟩
  clear S1 Z1 M1 L1 a3 a4 a4f
  go_upto_region 16 with (fail)
  have S2 : Stay w.heap.size (fun b => b = z.Bz ∨ b = z.Bv ∨ b = z.Bol) w (w1.setCell ⟨z.Bv, i, none⟩ (.bool true)) := H1.out.1.set _ (.inr (.inr (.inl rfl)))
  have Z2 := H1.out.2.1.other (k := i) (.bool true) hzv
  have M2 : Row (w1.setCell ⟨z.Bv, i, none⟩ (.bool true)) z.Bv oldN 4 (fun j => .bool (decide (j = i) || mv j)) := (H1.out.2.2.1.set (k := i) (.bool true)).congr (fun k hk => by
    unfold upd
    by_cases e : k = i
    · simp [e]
    · simp [e])
  have L2 := H1.out.2.2.2.other (k := i) (.bool true) (Ne.symm hvl)
  clear H1
  generalize w1.setCell ⟨z.Bv, i, none⟩ (.bool true) = w2 at S2 Z2 M2 L2 ⊢
  have c7 : w2.cell? ⟨z.Bz, 7, none⟩ = some (.int .u64 mig) := Z2.cell (by omega)
  have c7f := Z2.frozen (k := 7)
  have H2 : Hid (Stay w.heap.size (fun b => b = z.Bz ∨ b = z.Bv ∨ b = z.Bol) w w2 ∧ Row w2 z.Bz 10 28 (zF z oldN newN next false mig ov hc) ∧ Row w2 z.Bv oldN 4 (fun j => .bool (decide (j = i) || mv j)) ∧ Row w2 z.Bol oldN 32 (upd VO i (.slice none 0 0))) := ⟨S2, Z2, M2, L2⟩
  clear S2 Z2 M2 L2 b2 b4 b4f
  go_wp2_with fail
  go_loopg [] (oldN - next) (fun g wr => ∃ n : Nat, n + g = oldN ∧ next ≤ n ∧ (∀ j, next ≤ j → j < n → (decide (j = i) || mv j) = true) ∧ Stay w.heap.size (fun b => b = z.Bz ∨ b = z.Bv ∨ b = z.Bol) w wr ∧ Row wr z.Bz 10 28 (zF z oldN newN n false (mig + 1) ov hc) ∧ Row wr z.Bv oldN 4 (fun j => .bool (decide (j = i) || mv j)) ∧ Row wr z.Bol oldN 32 (upd VO i (.slice none 0 0)))
  case atStart =>
    obtain ⟨S2, Z2, M2, L2⟩ := H2.out
    exact ⟨next, by omega, Nat.le_refl _, fun j h1 h2 => by omega, S2.set _ (.inr (.inl rfl)), (Z2.set _).congr (fun k hk => zF_mig _ _ _ _ _ _ _ _ (mig + 1) k hk), M2.other _ (Ne.symm hzv), L2.other _ (Ne.symm hzl)⟩
  case round =>
    obtain ⟨n, hng, hn0, hall, hS, hZ, hM, hL⟩ := hrel
    have hnl : n ≤ oldN := by omega
    have H3 : Hid (n + gk = oldN ∧ next ≤ n ∧ (∀ j, next ≤ j → j < n → (decide (j = i) || mv j) = true) ∧ Stay w.heap.size (fun b => b = z.Bz ∨ b = z.Bv ∨ b = z.Bol) w wr ∧ Row wr z.Bz 10 28 (zF z oldN newN n false (mig + 1) ov hc) ∧ Row wr z.Bv oldN 4 (fun j => .bool (decide (j = i) || mv j)) ∧ Row wr z.Bol oldN 32 (upd VO i (.slice none 0 0))) := ⟨hng, hn0, hall, hS, hZ, hM, hL⟩
    have d0 : wr.cell? ⟨z.Bz, 0, none⟩ = some (.int .i64 oldN) := hZ.cell (by omega)
    have d2 : wr.cell? ⟨z.Bz, 2, none⟩ = some (.slice (some ⟨z.Bv, 0, none⟩) oldN oldN) := hZ.cell (by omega)
    have d5 : wr.cell? ⟨z.Bz, 5, none⟩ = some (.int .i64 n) := hZ.cell (by omega)
    have d5f := hZ.frozen (k := 5)
    by_cases hlt : n < oldN
    · have hlb : decide ((n : Int) < (oldN : Int)) = true := decide_eq_true (by omega)
      by_cases hmv : (decide (n = i) || mv n) = true
      · have dv : wr.cell? ⟨z.Bv, n, none⟩ = some (.bool true) := by rw [hM.cell hlt, hmv]
        have HMV : Hid _ := hmv
        clear hng hn0 hall hS hZ hM hL hmv
        go_upto_region 17 with (fail)
        go_quiet (fail)
        go_wp2_with fail
        obtain ⟨hng, hn0, hall, hS, hZ, hM, hL⟩ := H3.out
        go_roundg (gk - 1)
        case measure => omega
        case rel =>
          refine ⟨n + 1, by omega, by omega, fun j h1 h2 => ?_, (hS.drewN nq).set _ (.inr (.inl rfl)), ((hZ.drewN nq).set _).congr (fun k hk => zF_next _ _ _ _ _ _ _ _ (n + 1) k hk), (hM.drewN nq).other _ (Ne.symm hzv), (hL.drewN nq).other _ (Ne.symm hzl)⟩
          by_cases e : j < n
          · exact hall j h1 e
          · have : j = n := by omega
            subst this; exact HMV.out
      · have hmf : (decide (n = i) || mv n) = false := by simpa using hmv
        have dv : wr.cell? ⟨z.Bv, n, none⟩ = some (.bool false) := by rw [hM.cell hlt, hmf]
        have HMV : Hid ((decide (n = i) || mv n) = false) := hmf
        have hnb : ((n : Int) == (oldN : Int)) = false := by simp; omega
        clear hng hn0 hall hS hZ hM hL hmv hmf
        go_upto_region 17 with (fail)
        go_quiet (fail)
        go_upto_region 19 with (fail)
        have g0 : (wr.drewN nq).cell? ⟨z.Bz, 0, none⟩ = some (.int .i64 oldN) := d0
        have g5 : (wr.drewN nq).cell? ⟨z.Bz, 5, none⟩ = some (.int .i64 n) := d5
        go_quiet (fail)
        go_wp2_with fail
        go_end0
        obtain ⟨hng, hn0, hall, hS, hZ, hM, hL⟩ := H3.out
        refine ⟨rfl, n, ⟨hn0, hnl, hall, fun _ => HMV.out⟩, ?_, hM, hL, (hS.drewN _).drewN _⟩
        rw [decide_eq_false (by omega)]
        exact hZ
    · have hlb : decide ((n : Int) < (oldN : Int)) = false := decide_eq_false (by omega)
      have hnb : ((n : Int) == (oldN : Int)) = true := by simp; omega
      have d6 : wr.cell? ⟨z.Bz, 6, none⟩ = some (.bool false) := hZ.cell (by omega)
      have d6f := hZ.frozen (k := 6)
      clear hng hn0 hall hS hZ hM hL
      go_upto_region 17 with (fail)
      go_quiet (fail)
      go_upto_region 19 with (fail)
      have g0 : (wr.drewN nq).cell? ⟨z.Bz, 0, none⟩ = some (.int .i64 oldN) := d0
      have g5 : (wr.drewN nq).cell? ⟨z.Bz, 5, none⟩ = some (.int .i64 n) := d5
      have g6 : (wr.drewN nq).cell? ⟨z.Bz, 6, none⟩ = some (.bool false) := d6
      have g6f : (wr.drewN nq).frozen? ⟨z.Bz, 6, none⟩ = false := d6f
      go_quiet (fail)
      go_wp2_with fail
      go_end0
      obtain ⟨hng, hn0, hall, hS, hZ, hM, hL⟩ := H3.out
      refine ⟨rfl, n, ⟨hn0, hnl, hall, fun h => by omega⟩, ?_, (hM.drewN 0).other _ (Ne.symm hzv), (hL.drewN 0).other _ (Ne.symm hzl), (hS.drewN _).set _ (.inr (.inl rfl))⟩
      rw [decide_eq_true (by omega)]
      exact (Row.set (hZ.drewN 0) _).congr (fun k hk => zF_end _ _ _ _ _ _ _ _ true k hk)
end Go.Proofs.Ybulkeaqa
