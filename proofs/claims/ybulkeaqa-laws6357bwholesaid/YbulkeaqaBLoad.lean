/- S6357B: atomic.Bool's Load. -/
import Derived.Test.YbulkeaqaBSmall
import Derived.Laws.LoneSync
namespace Go.Proofs.Ybulkeaqa
open Go.RowKit
set_option linter.unusedSimpArgs false

theorem load_any (B o : Nat) (w : World) (h : w.cell? ⟨B, o, none⟩ = some (.int .u32 0)) : Calls Yba.prog 10 #[.pointer (some ⟨B, o, none⟩)] w fun e w' => e = .returned (.bool false) ∧ w = w' := by
  have hld := run_call_load (P := Yba.prog) Yba.func20 (by kernel_rfl) (by kernel_rfl) (by kernel_rfl) .u32 (by kernel_rfl) h
  go_enter Yba.func10, Yba.ntmps10
  go_wp2
  go_ret
  exact ⟨rfl, rfl⟩
end Go.Proofs.Ybulkeaqa
