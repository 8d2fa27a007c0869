/- S6350A: nodeSet.grow and add, at a nil set. -/
import Derived.Test.YbulkeamgAdd3
namespace Go.Proofs.Ybulkeamg
open Go.RowKit
set_option linter.unusedSimpArgs false

set_option maxHeartbeats 1000000 in
theorem ngrow_any (R k N : Nat) (t : TypeId) (F : Nat → Value) (n : Nat) (w : World) (hR : Row w R N t F) (ho : k < N) (hw : F k = .slice none 0 0) (hn0 : 0 < n) (hn1 : n ≤ 200) :
    Calls Yba.prog 16 #[.pointer (some ⟨R, k, none⟩), .int .i64 n] w fun e w' => e = .returned (.tuple #[]) ∧
      ∃ c, n ≤ c ∧ Row w' R N t (upd F k (.slice (some ⟨w.heap.size, 0, none⟩) n c)) ∧ Row w' w.heap.size c 35 (fun _ => .int .u64 0) ∧ Stay w.heap.size (fun b => b = R) w w' ∧ w'.heap.size = w.heap.size + 1 := by
  have d3 := hR.cell ho
  rw [hw] at d3
  have g3 := hR.frozen (k := k)
  have hlt := hR.lt
  have H3 : Hid (Row w R N t F) := hR
  clear hR hw
  go_enter Yba.func16, Yba.ntmps16
  go_upto_region 3 with (go_at_call 20; refine (grow_set n _ hn0 (by omega)).mono ?_; rintro e w1 ⟨c, cs, rfl, rfl, hc1, hc2, hc3, hc4⟩)
  have R4 := ((H3.out.set (k := k) (.slice (some ⟨w.heap.size, 0, none⟩) n c)).alloc (.cells cs 35)).drew
  have N4 : Row ((w.setCell ⟨R, k, none⟩ (.slice (some ⟨w.heap.size, 0, none⟩) n c)).alloc (.cells cs 35)).drew w.heap.size c 35 (fun _ => .int .u64 0) := by
    have := Row.new (w.setCell ⟨R, k, none⟩ (.slice (some ⟨w.heap.size, 0, none⟩) n c)) cs 35 (fun _ => .int .u64 0) (fun k hk => hc4 k (by omega))
    rw [hc3] at this
    simp only [World.setCell, Array.size_modify] at this
    exact this
  have S4 := (((Stay.refl w.heap.size (fun b => b = R) w).set (o := k) (.slice (some ⟨w.heap.size, 0, none⟩) n c) (.inr rfl)).alloc (by simp only [World.setCell, Array.size_modify]; exact Nat.le_refl _) (.cells cs 35)).drew
  have Z4 : ((w.setCell ⟨R, k, none⟩ (.slice (some ⟨w.heap.size, 0, none⟩) n c)).alloc (.cells cs 35)).drew.heap.size = w.heap.size + 1 := by
    show ((w.setCell ⟨R, k, none⟩ (.slice (some ⟨w.heap.size, 0, none⟩) n c)).alloc (.cells cs 35)).heap.size = w.heap.size + 1
    simp [World.setCell]
  generalize ((w.setCell ⟨R, k, none⟩ (.slice (some ⟨w.heap.size, 0, none⟩) n c)).alloc (.cells cs 35)).drew = w4 at R4 N4 S4 Z4 ⊢
  have d4 := R4.cell ho
  rw [upd_same] at d4
  have hcl := fun ty => Lib.run_clear_slice (P := Yba.prog) w4 42 35 ty (.int .u64 0) Yba.underlying42 Yba.zeroValue35 rfl rfl w.heap.size 0 n c hn0 (fun j hj => by rw [Nat.zero_add, N4.cell (by omega)]; rfl) (fun j _ => by rw [Nat.zero_add]; exact N4.frozen)
  have H4 : Hid (Row w4 R N t (upd F k (.slice (some ⟨w.heap.size, 0, none⟩) n c)) ∧ Row w4 w.heap.size c 35 (fun _ => .int .u64 0) ∧ Stay w.heap.size (fun b => b = R) w w4 ∧ w4.heap.size = w.heap.size + 1) := ⟨R4, N4, S4, Z4⟩
  clear R4 N4 S4 Z4 hc3 hc4 d3 g3 H3
  go_wp2_with fail
  go_end0
  refine ⟨rfl, c, hc1, ?_, ?_, Stay.setCells (.inl (Nat.le_refl _)) _ _ _ H4.out.2.2.1, by rw [size_setCells]; exact H4.out.2.2.2⟩
  · have := Stay.setCells (n := w.heap.size) (B := w.heap.size) (S := fun _ => False) (.inl (Nat.le_refl _)) (List.replicate n (.int .u64 0)) 0 w4 (Stay.refl _ _ w4)
    exact H4.out.1.stay this hlt id
  · have := H4.out.2.1.setCells (List.replicate n (.int .u64 0)) 0
    rwa [updL_zero] at this
end Go.Proofs.Ybulkeamg
