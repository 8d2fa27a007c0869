import Derived.Test.YbulkeaniRows
import Derived.WalkKit
import Derived.Laws.EntriesVeiled
namespace Go.Proofs.Ybulkeani
open Go.RowKit

def pick (v d : Int) : Int := if v = 0 then d else v
theorem pick_t {v d : Int} (h : (v == 0) = true) : pick v d = d := by simp at h; simp [pick, h]
theorem pick_f {v d : Int} (h : (v == 0) = false) : pick v d = v := by simp at h; simp [pick, h]
theorem below_alloc {w a : World} (h : Below w.heap.size w a) (o : Obj) : Below w.heap.size w (a.alloc o) := h.alloc h.size o

set_option maxHeartbeats 4000000 in
theorem wd_nil (a0 a1 a2 : ByteArray) (a3 a4 a5 a6 a7 : Int) (w : World) :
    Calls Yba.prog 5 #[.agg #[.string a0, .string a1, .string a2, .int .i64 a3, .int .i64 a4, .int .i64 a5, .int .i64 a6, .int .i64 a7, .nilFunc]] w fun e w' => e = .returned (.agg #[.string a0, .string a1, .string a2, .int .i64 a3, .int .i64 (pick a4 60000000000), .int .i64 (pick a5 180000000000), .int .i64 (pick a6 10), .int .i64 (pick a7 20000000000), .nilFunc]) ∧ Below w.heap.size w w' := by
  go_enter Yba.func5, Yba.ntmps5
  go_wp2
  refine wp_loop_rounds 4 ?_
  rw [rounds_succ]
  go_wp2
  all_goals (rw [rounds_succ]; go_wp2)
  all_goals (rw [rounds_succ]; go_wp2)
  all_goals (rw [rounds_succ]; go_wp2)
  all_goals
    refine bodyPost_ret (v := .agg #[.string a0, .string a1, .string a2, .int .i64 a3, .int .i64 (pick a4 60000000000), .int .i64 (pick a5 180000000000), .int .i64 (pick a6 10), .int .i64 (pick a7 20000000000), .nilFunc]) ?_ rfl ⟨rfl, ?_⟩
    · first | rw [pick_t (v := a4) (by assumption)] | rw [pick_f (v := a4) (by assumption)]
      first | rw [pick_t (v := a5) (by assumption)] | rw [pick_f (v := a5) (by assumption)]
      first | rw [pick_t (v := a6) (by assumption)] | rw [pick_f (v := a6) (by assumption)]
      first | rw [pick_t (v := a7) (by assumption)] | rw [pick_f (v := a7) (by assumption)]
      simp [results, Yba.results5, go_sem]
    · repeat (first | exact Below.refl _ _ | refine below_alloc ?_ _)

set_option maxHeartbeats 4000000 in
theorem wd_func (a0 a1 a2 : ByteArray) (a3 a4 a5 a6 a7 : Int) (b : Nat) (w : World) :
    Calls Yba.prog 5 #[.agg #[.string a0, .string a1, .string a2, .int .i64 a3, .int .i64 a4, .int .i64 a5, .int .i64 a6, .int .i64 a7, .func (.func 4) #[] #[.pointer (some ⟨b, 0, none⟩)]]] w fun e w' => e = .returned (.agg #[.string a0, .string a1, .string a2, .int .i64 a3, .int .i64 (pick a4 60000000000), .int .i64 (pick a5 180000000000), .int .i64 (pick a6 10), .int .i64 (pick a7 20000000000), .func (.func 4) #[] #[.pointer (some ⟨b, 0, none⟩)]]) ∧ Below w.heap.size w w' := by
  go_enter Yba.func5, Yba.ntmps5
  go_wp2
  refine wp_loop_rounds 4 ?_
  rw [rounds_succ]
  go_wp2
  all_goals (rw [rounds_succ]; go_wp2)
  all_goals (rw [rounds_succ]; go_wp2)
  all_goals (rw [rounds_succ]; go_wp2)
  all_goals
    refine bodyPost_ret (v := .agg #[.string a0, .string a1, .string a2, .int .i64 a3, .int .i64 (pick a4 60000000000), .int .i64 (pick a5 180000000000), .int .i64 (pick a6 10), .int .i64 (pick a7 20000000000), .func (.func 4) #[] #[.pointer (some ⟨b, 0, none⟩)]]) ?_ rfl ⟨rfl, ?_⟩
    · first | rw [pick_t (v := a4) (by assumption)] | rw [pick_f (v := a4) (by assumption)]
      first | rw [pick_t (v := a5) (by assumption)] | rw [pick_f (v := a5) (by assumption)]
      first | rw [pick_t (v := a6) (by assumption)] | rw [pick_f (v := a6) (by assumption)]
      first | rw [pick_t (v := a7) (by assumption)] | rw [pick_f (v := a7) (by assumption)]
      simp [results, Yba.results5, go_sem]
    · repeat (first | exact Below.refl _ _ | refine below_alloc ?_ _)
end Go.Proofs.Ybulkeani
