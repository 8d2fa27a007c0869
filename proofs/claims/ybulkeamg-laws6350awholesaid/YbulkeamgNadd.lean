/- S6350A: nodeSet.add, at a nil set. -/
import Derived.Test.YbulkeamgNset
namespace Go.Proofs.Ybulkeamg
open Go.RowKit
set_option linter.unusedSimpArgs false

set_option maxHeartbeats 1000000 in
theorem nadd_any (R k N : Nat) (t : TypeId) (F : Nat → Value) (v : Nat) (w : World) (hR : Row w R N t F) (ho : k < N) (hw : F k = .slice none 0 0) (hv : v ≤ 1000) :
    Calls Yba.prog 9 #[.pointer (some ⟨R, k, none⟩), .int .i64 v] w fun e w' => e = .returned (.tuple #[]) ∧
      ∃ c, v / 64 + 1 ≤ c ∧ Row w' R N t (upd F k (.slice (some ⟨w.heap.size, 0, none⟩) (v / 64 + 1) c)) ∧ Row w' w.heap.size c 35 (upd (fun _ => .int .u64 0) (v / 64) (.int .u64 (bits .or .u64 0 ((2 ^ (v % 64) : Nat) : Int)))) ∧ Stay w.heap.size (fun b => b = R) w w' ∧ w'.heap.size = w.heap.size + 1 := by
  have HG : Hid _ := ngrow_any R k N t F (v / 64 + 1) w hR ho hw (by omega) (by omega)
  have hlt := hR.lt
  have hp : (2 : Nat) ^ (v % 64) ≤ 2 ^ 63 := Nat.pow_le_pow_right (by decide) (by omega)
  have hwp : IntKind.u64.wrap ((2 : Int) ^ (v % 64)) = ((2 ^ (v % 64) : Nat) : Int) := by
    have e : ((2 : Int) ^ (v % 64)) = ((2 ^ (v % 64) : Nat) : Int) := by simp
    rw [e, IntKind.wrap_u64]
    generalize (2 : Nat) ^ (v % 64) = P at hp ⊢
    omega
  clear hR hw hp
  go_enter Yba.func9, Yba.ntmps9
  go_upto_region 1 with (go_at_call 16; refine Calls.mono HG.out ?_; rintro e w1 ⟨rfl, c, hc, R1, N1, S1, Z1⟩)
  have d1 := R1.cell ho
  rw [upd_same] at d1
  have d2 := N1.cell (k := v / 64) (by omega)
  have f2 := N1.frozen (k := v / 64)
  have H1 : Hid (Row w1 R N t (upd F k (.slice (some ⟨w.heap.size, 0, none⟩) (v / 64 + 1) c)) ∧ Row w1 w.heap.size c 35 (fun _ => .int .u64 0) ∧ Stay w.heap.size (fun b => b = R) w w1 ∧ w1.heap.size = w.heap.size + 1) := ⟨R1, N1, S1, Z1⟩
  have hdv : (v : Int) / 64 < (v : Int) / 64 + 1 := by omega
  clear R1 N1 S1 Z1 HG
  go_region
  go_wp2_with fail
  go_end0
  have e2 : ((2 ^ (v % 64) : Nat) : Int) = (2 : Int) ^ (v % 64) := by simp
  rw [e2]
  exact ⟨rfl, c, hc, (H1.out.1.other _ (by omega)).drew, (H1.out.2.1.set _).drew, (H1.out.2.2.1.set _ (.inl (Nat.le_refl _))).drew, by
    show (w1.setCell _ _).heap.size = _
    simp only [World.setCell, Array.size_modify]
    exact H1.out.2.2.2⟩
end Go.Proofs.Ybulkeamg
