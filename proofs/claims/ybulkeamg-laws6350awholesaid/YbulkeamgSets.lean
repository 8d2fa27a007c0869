/- S6350A: roundSets' own functions. -/
import Derived.Test.YbulkeamgRow
import Derived.Lib.SliceRun
import Derived.RegionTactic
import Derived.BigRegion
import Derived.Deep.QuietTactic
import Derived.BigQuiet
import Derived.Deep.DeepCutAuto
namespace Go.Proofs.Ybulkeamg
open Go.RowKit
set_option linter.unusedSimpArgs false

/-- A roundSets' four cells, set. -/
def upd4 (F : Nat → Value) (o base first width : Nat) (ws : Value) : Nat → Value := upd (upd (upd (upd F o (.int .i64 base)) (o + 1) (.int .i64 first)) (o + 2) (.int .i64 width)) (o + 3) ws

set_option maxHeartbeats 200000 in
theorem reset_any (R o N : Nat) (t : TypeId) (F : Nat → Value) (L f W : Nat) (w : World) (hR : Row w R N t F) (ho : o + 3 < N) (hw : F (o + 3) = .slice none 0 0) (hL : L ≤ 1) (_hf : f ≤ 100) (hW0 : 0 < W) (hW : W ≤ 100) (n E : Nat) (hn : ((L : Int) + 1) * W = n) (hE : (E : Int) - f = W) (_hE2 : E ≤ 200) :
    Calls Yba.prog 10 #[.pointer (some ⟨R, o, none⟩), .int .i64 0, .int .i64 L, .int .i64 f, .int .i64 E] w fun e w' => e = .returned (.tuple #[]) ∧
      ∃ c, n ≤ c ∧ c ≤ maxLen ∧ Row w' R N t (upd4 F o 0 f W (.slice (some ⟨w.heap.size, 0, none⟩) n c)) ∧ Row w' w.heap.size c 35 (fun _ => .int .u64 0) ∧ Stay w.heap.size (fun b => b = R) w w' ∧ w'.heap.size = w.heap.size + 1 := by
  have c0 := hR.cell (k := o) (by omega)
  have c1 := hR.cell (k := o + 1) (by omega)
  have c2 := hR.cell (k := o + 2) (by omega)
  have c3 := hR.cell (k := o + 3) ho
  rw [hw] at c3
  have f0 := hR.frozen (k := o)
  have f1 := hR.frozen (k := o + 1)
  have f2 := hR.frozen (k := o + 2)
  have f3 := hR.frozen (k := o + 3)
  have hlt := hR.lt
  have hn0 : 0 < n := by rcases (show L = 0 ∨ L = 1 by omega) with rfl | rfl <;> omega
  have hn1 : n ≤ 200 := by rcases (show L = 0 ∨ L = 1 by omega) with rfl | rfl <;> omega
  have HR : Hid (Row w R N t F) := hR
  clear hR
  have Hw : Hid (F (o + 3) = .slice none 0 0) := hw
  clear hw
  go_enter Yba.func10, Yba.ntmps10
  go_upto_region 2 with (fail)
  have R3 : Row (((w.setCell ⟨R, o, none⟩ (.int .i64 0)).setCell ⟨R, o + 1, none⟩ (.int .i64 f)).setCell ⟨R, o + 2, none⟩ (.int .i64 W)) R N t (upd (upd (upd F o (.int .i64 (0 : Nat))) (o + 1) (.int .i64 f)) (o + 2) (.int .i64 W)) := ((HR.out.set _).set _).set _
  have S3 : Stay w.heap.size (fun b => b = R) w (((w.setCell ⟨R, o, none⟩ (.int .i64 0)).setCell ⟨R, o + 1, none⟩ (.int .i64 f)).setCell ⟨R, o + 2, none⟩ (.int .i64 W)) := (((Stay.refl w.heap.size (fun b => b = R) w).set _ (.inr rfl)).set _ (.inr rfl)).set _ (.inr rfl)
  have Z3 : (((w.setCell ⟨R, o, none⟩ (.int .i64 0)).setCell ⟨R, o + 1, none⟩ (.int .i64 f)).setCell ⟨R, o + 2, none⟩ (.int .i64 W)).heap.size = w.heap.size := by simp [World.setCell]
  generalize ((w.setCell ⟨R, o, none⟩ (.int .i64 0)).setCell ⟨R, o + 1, none⟩ (.int .i64 f)).setCell ⟨R, o + 2, none⟩ (.int .i64 W) = w3 at R3 S3 Z3 ⊢
  clear c0 c1 c2 c3 f0 f1 f2 f3
  have d3 := R3.cell (k := o + 3) ho
  rw [upd_ne _ _ (by omega), upd_ne _ _ (by omega), upd_ne _ _ (by omega), Hw.out] at d3
  have g3 := R3.frozen (k := o + 3)
  have hlt3 := R3.lt
  have H3 : Hid (Row w3 R N t (upd (upd (upd F o (.int .i64 (0 : Nat))) (o + 1) (.int .i64 f)) (o + 2) (.int .i64 W)) ∧ Stay w.heap.size (fun b => b = R) w w3 ∧ w3.heap.size = w.heap.size) := ⟨R3, S3, Z3⟩
  clear R3 S3 Z3 Hw HR hn hE
  go_upto_region 3 with (go_at_call 17; refine (grow_words n _ hn0 (by omega)).mono ?_; rintro e w1 ⟨c, cs, rfl, rfl, hc1, hc2, hc3, hc4⟩)
  have R4 := ((H3.out.1.set (k := o + 3) (.slice (some ⟨w3.heap.size, 0, none⟩) n c)).alloc (.cells cs 35)).drew
  have N4 : Row ((w3.setCell ⟨R, o + 3, none⟩ (.slice (some ⟨w3.heap.size, 0, none⟩) n c)).alloc (.cells cs 35)).drew w3.heap.size c 35 (fun _ => .int .u64 0) := by
    have := Row.new (w3.setCell ⟨R, o + 3, none⟩ (.slice (some ⟨w3.heap.size, 0, none⟩) n c)) cs 35 (fun _ => .int .u64 0) (fun k hk => hc4 k (by omega))
    rw [hc3] at this
    simp only [World.setCell, Array.size_modify] at this
    exact this
  have S4 := ((H3.out.2.1.set (o := o + 3) (.slice (some ⟨w3.heap.size, 0, none⟩) n c) (.inr rfl)).alloc (by simp only [World.setCell, Array.size_modify]; rw [H3.out.2.2]; exact Nat.le_refl _) (.cells cs 35)).drew
  have Z4 : ((w3.setCell ⟨R, o + 3, none⟩ (.slice (some ⟨w3.heap.size, 0, none⟩) n c)).alloc (.cells cs 35)).drew.heap.size = w3.heap.size + 1 := by
    show ((w3.setCell ⟨R, o + 3, none⟩ (.slice (some ⟨w3.heap.size, 0, none⟩) n c)).alloc (.cells cs 35)).heap.size = w3.heap.size + 1
    simp [World.setCell]
  generalize ((w3.setCell ⟨R, o + 3, none⟩ (.slice (some ⟨w3.heap.size, 0, none⟩) n c)).alloc (.cells cs 35)).drew = w4 at R4 N4 S4 Z4 ⊢
  rw [H3.out.2.2] at R4 N4 Z4 ⊢
  have d4 := R4.cell (k := o + 3) ho
  rw [upd_same] at d4
  have hcl := fun ty => Lib.run_clear_slice (P := Yba.prog) w4 34 35 ty (.int .u64 0) Yba.underlying34 Yba.zeroValue35 rfl rfl w.heap.size 0 n c hn0 (fun j hj => by rw [Nat.zero_add, N4.cell (by omega)]; rfl) (fun j _ => by rw [Nat.zero_add]; exact N4.frozen)
  have H4 : Hid (Row w4 R N t (upd4 F o 0 f W (.slice (some ⟨w.heap.size, 0, none⟩) n c)) ∧ Row w4 w.heap.size c 35 (fun _ => .int .u64 0) ∧ Stay w.heap.size (fun b => b = R) w w4 ∧ w4.heap.size = w.heap.size + 1) := ⟨R4, N4, S4, Z4⟩
  clear R4 N4 S4 Z4 hc3 hc4 d3 g3 hlt3 H3
  go_wp2_with fail
  go_end0
  refine ⟨rfl, c, hc1, hc2, ?_, ?_, Stay.setCells (.inl (Nat.le_refl _)) _ _ _ H4.out.2.2.1, by rw [size_setCells]; exact H4.out.2.2.2⟩
  · have := Stay.setCells (n := w.heap.size) (B := w.heap.size) (S := fun _ => False) (.inl (Nat.le_refl _)) (List.replicate n (.int .u64 0)) 0 w4 (Stay.refl _ _ w4)
    exact H4.out.1.stay this hlt id
  · have := H4.out.2.1.setCells (List.replicate n (.int .u64 0)) 0
    rwa [updL_zero] at this

theorem at_any (R o b0 W i n c Bw u : Nat) (w : World) (h0 : w.cell? ⟨R, o, none⟩ = some (.int .i64 b0)) (h2 : w.cell? ⟨R, o + 2, none⟩ = some (.int .i64 W)) (h3 : w.cell? ⟨R, o + 3, none⟩ = some (.slice (some ⟨Bw, 0, none⟩) n c))
    (hi : ((u : Int) - b0) * W = i) (hu : b0 ≤ u) (hu2 : u ≤ 1000) (hi1 : i ≤ 10000) (hW : W ≤ 1000) (hW0 : 0 < W) (hic : i + W ≤ c) (hc : c ≤ maxLen) :
    Calls Yba.prog 13 #[.pointer (some ⟨R, o, none⟩), .int .i64 u] w fun e w' => e = .returned (.slice (some ⟨Bw, i, none⟩) W W) ∧ ∃ q, w' = w.drewN q := by
  unfold maxLen at hc
  go_enter Yba.func13, Yba.ntmps13
  go_wp2_with fail
  go_quiet (fail)
  go_wp2_with fail
  go_quiet (fail)
  go_wp2_with fail
  go_ret
  refine ⟨?_, _, World.drewN_drewN _ _ _⟩
  show Ending.returned (Value.slice (some ⟨Bw, i, none⟩) (i + W - i) (i + W - i)) = _
  rw [Nat.add_sub_cancel_left]
end Go.Proofs.Ybulkeamg
