/- S6350A: roundSets.drop. -/
import Derived.Test.YbulkeamgNadd
import Derived.Laws.IdiomCopy
import Derived.Deep.MidRow
namespace Go.Proofs.Ybulkeamg
open Go.RowKit
set_option linter.unusedSimpArgs false

set_option maxHeartbeats 1000000 in
theorem drop_any (R o N : Nat) (t : TypeId) (F : Nat → Value) (b0 W c Bw : Nat) (G : Nat → Value) (w : World) (hR : Row w R N t F) (ho : o + 3 < N) (hF0 : F o = .int .i64 b0) (hF2 : F (o + 2) = .int .i64 W) (hF3 : F (o + 3) = .slice (some ⟨Bw, 0, none⟩) (2 * W) c)
    (hB : Row w Bw c 35 G) (hne : R ≠ Bw) (hb0 : b0 ≤ 1000) (hW0 : 0 < W) (hW : W ≤ 1000) (hc : 2 * W ≤ c) (_hcm : c ≤ maxLen) (hG : ∀ k, k < c → (G k).oneCell' = true) :
    Calls Yba.prog 15 #[.pointer (some ⟨R, o, none⟩)] w fun e w' => e = .returned (.tuple #[]) ∧
      Row w' R N t (upd (upd F o (.int .i64 ((b0 : Int) + 1))) (o + 3) (.slice (some ⟨Bw, 0, none⟩) W c)) ∧ Row w' Bw c 35 (updL G 0 ((List.range W).map fun j => G (W + j))) ∧ Stay w.heap.size (fun b => b = R ∨ b = Bw) w w' ∧ w'.heap.size = w.heap.size := by
  have c0 := hR.cell (k := o) (by omega)
  have c2 := hR.cell (k := o + 2) (by omega)
  have c3 := hR.cell (k := o + 3) ho
  rw [hF0] at c0
  rw [hF2] at c2
  rw [hF3] at c3
  have f0 := hR.frozen (k := o)
  have f3 := hR.frozen (k := o + 3)
  have HF2 : Hid (F (o + 2) = .int .i64 W) := hF2
  have HF3 : Hid (F (o + 3) = .slice (some ⟨Bw, 0, none⟩) (2 * W) c) := hF3
  clear hF0 hF2 hF3
  have HR : Hid (Row w R N t F ∧ Row w Bw c 35 G) := ⟨hR, hB⟩
  clear hR hB
  go_enter Yba.func15, Yba.ntmps15
  go_upto_region 1 with (fail)
  have R3 := HR.out.1.set (k := o) (.int .i64 ((b0 : Int) + 1))
  have B3 := HR.out.2.other (k := o) (.int .i64 ((b0 : Int) + 1)) (Ne.symm hne)
  have c2' := R3.cell (k := o + 2) (by omega)
  have c3' := R3.cell (k := o + 3) ho
  rw [upd_ne _ _ (by omega), HF2.out] at c2'
  rw [upd_ne _ _ (by omega), HF3.out] at c3'
  have f3' := R3.frozen (k := o + 3)
  have hS3 : Stay w.heap.size (fun b => b = R ∨ b = Bw) w (w.setCell ⟨R, o, none⟩ (.int .i64 ((b0 : Int) + 1))) := (Stay.refl w.heap.size (fun b => b = R ∨ b = Bw) w).set _ (.inr (.inl rfl))
  have hZ3 : (w.setCell ⟨R, o, none⟩ (.int .i64 ((b0 : Int) + 1))).heap.size = w.heap.size := by simp [World.setCell]
  generalize w.setCell ⟨R, o, none⟩ (.int .i64 ((b0 : Int) + 1)) = w3 at R3 B3 c2' c3' f3' hS3 hZ3 ⊢
  have hcp := fun ty => run_copy_cells (P := Yba.prog) w3.drew 34 34 ty 35 Bw 0 (2 * W) c ⟨Bw, W, none⟩ (2 * W - W) (c - W) ((List.range W).map fun j => G (W + j)) Yba.underlying34 (by kernel_rfl) (by simp [Nat.min_def]; omega)
    (fun j v hv => by
      have hj : j < W := by have := (List.getElem?_eq_some_iff.1 hv).1; simpa using this
      rw [List.getElem?_map, List.getElem?_range hj] at hv
      rw [Addr.add_mid, ← hv]
      exact B3.cell (by omega))
    (fun j hj => by
      have hj' : j < W := by simpa using hj
      have := B3.cell (k := 0 + j) (by omega)
      show (w3.cell? _).isSome = true
      rw [this]; rfl)
    (fun j _ => B3.frozen) (fun v hv => by
      obtain ⟨j, hj, rfl⟩ := List.mem_map.1 hv
      exact hG _ (by have := List.mem_range.1 hj; omega))
  have S3 : Stay w.heap.size (fun b => b = R ∨ b = Bw) w w3 := hS3
  have Z3 : w3.heap.size = w.heap.size := hZ3
  have c3s : (w3.drew.setCells Bw 0 ((List.range W).map fun j => G (W + j))).cell? ⟨R, o + 3, none⟩ = some (.slice (some ⟨Bw, 0, none⟩) (2 * W) c) := by
    rw [World.cell?_setCells_out _ _ _ _ _ (fun e _ => absurd e hne)]
    exact c3'
  have c2s : (w3.drew.setCells Bw 0 ((List.range W).map fun j => G (W + j))).cell? ⟨R, o + 2, none⟩ = some (.int .i64 W) := by
    rw [World.cell?_setCells_out _ _ _ _ _ (fun e _ => absurd e hne)]
    exact c2'
  have f3s : (w3.drew.setCells Bw 0 ((List.range W).map fun j => G (W + j))).frozen? ⟨R, o + 3, none⟩ = false := by
    rw [World.frozen?_setCells]
    exact f3'
  have H3 : Hid (Row w3 R N t (upd F o (.int .i64 ((b0 : Int) + 1))) ∧ Row w3 Bw c 35 G ∧ Stay w.heap.size (fun b => b = R ∨ b = Bw) w w3 ∧ w3.heap.size = w.heap.size) := ⟨R3, B3, S3, Z3⟩
  clear c0 c2 c3 f0 f3 R3 B3 S3 Z3 hS3 hZ3 HR hG
  go_region
  go_wp2_with fail
  go_end0
  have hR4 : Row (w3.drew.setCells Bw 0 ((List.range W).map fun j => G (W + j))) R N t (upd F o (.int .i64 ((b0 : Int) + 1))) :=
    Row.stay (w := w3.drew) (n := R + 1) (S := fun b => b = Bw) H3.out.1.drew (Stay.setCells (n := R + 1) (B := Bw) (S := fun b => b = Bw) (w := w3.drew) (.inr rfl) _ _ _ (Stay.refl (R + 1) (fun b => b = Bw) w3.drew)) (by omega) hne
  refine ⟨rfl, hR4.set _, ?_, ?_, ?_⟩
  · exact (Row.setCells _ 0 G w3.drew H3.out.2.1).other _ (Ne.symm hne)
  · exact (Stay.setCells (.inr (.inr rfl)) _ _ _ H3.out.2.2.1.drew).set _ (.inr (.inl rfl))
  · simp only [World.setCell, Array.size_modify]
    rw [size_setCells]
    exact H3.out.2.2.2
end Go.Proofs.Ybulkeamg
