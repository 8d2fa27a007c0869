import Derived.Test.YbulkeaniDef
import Derived.Deep.QuietTactic
import Derived.BigQuiet
namespace Go.Proofs.Ybulkeani
open Go.RowKit

theorem bcell {W w1 : World} (hb : Below W.heap.size W w1) : (∀ b o, b < W.heap.size → w1.cell? ⟨b, o, none⟩ = W.cell? ⟨b, o, none⟩) ∧ (∀ b o, b < W.heap.size → w1.frozen? ⟨b, o, none⟩ = W.frozen? ⟨b, o, none⟩) :=
  ⟨fun b o h => hb.cell (p := ⟨b, o, none⟩) h, fun b o h => hb.frozen (p := ⟨b, o, none⟩) h⟩

theorem pick_any (v d : Int) (w : World) : Calls Yba.prog 6 #[.int .i64 v, .int .i64 d] w fun e w' => e = .returned (.int .i64 (pick v d)) ∧ w' = w := by
  by_cases h : (v == 0) = true
  · rw [pick_t h]
    go_enter Yba.func6, Yba.ntmps6
    go_wp2
    go_ret
    exact ⟨rfl, rfl⟩
  · rw [pick_f (by simpa using h)]
    have h' : (v == 0) = false := by simpa using h
    clear h
    go_enter Yba.func6, Yba.ntmps6
    go_wp2
    go_ret
    exact ⟨rfl, rfl⟩

theorem facts {w w1 : World} {c0 : Value} {cs : Array Value} (hb : Below ((w.alloc (.cells #[c0] 3)).alloc (.cells cs 26)).heap.size ((w.alloc (.cells #[c0] 3)).alloc (.cells cs 26)) w1) :
    (∀ ob, (w1.alloc ob).cell? ⟨w.heap.size, 0, none⟩ = some c0) ∧ (∀ ob j, (w1.alloc ob).cell? ⟨w.heap.size + 1, j, none⟩ = cs[j]?) ∧ (∀ ob, (w1.alloc ob).frozen? ⟨w.heap.size, 0, none⟩ = false) := by
  have hz := hb.size
  simp only [World.size_alloc] at hz
  obtain ⟨hc, hf⟩ := bcell hb
  simp only [World.size_alloc] at hc hf
  refine ⟨fun ob => ?_, fun ob j => ?_, fun ob => ?_⟩
  · rw [World.cell?_alloc_lt _ _ _ (by simp; omega), hc _ _ (by omega)]; simp
  · rw [World.cell?_alloc_lt _ _ _ (by simp; omega), hc _ _ (by omega)]; simp
  · rw [World.frozen?_alloc_old _ _ _ (by simp; omega), hf _ _ (by omega)]; simp

theorem bdN {B : Nat} {a w : World} (h : Below B a w) (n : Nat) : Below B a (w.drewN n) := h.trans ⟨rfl, rfl, rfl, Nat.le_refl _, fun _ _ => rfl⟩
theorem eq_nil (w : World) : (binOp .eql 22 .nilFunc .nilFunc).run Yba.prog w = .ok (.bool true) w := by kernel_rfl
theorem eq_func (b : Nat) (w : World) : (binOp .eql 22 (.func (.func 4) #[] #[.pointer (some ⟨b, 0, none⟩)]) .nilFunc).run Yba.prog w = .ok (.bool false) w := by kernel_rfl

theorem first_pick (v d : Int) {b : Bool} (h : (v == 0) = b) : pick v d = if b then d else v := by cases b <;> simp_all [pick]

set_option maxHeartbeats 4000000 in
set_option maxRecDepth 100000 in
theorem law_nil (a0 a1 a2 : ByteArray) (a3 a4 a5 a6 a7 : Int) (w : World) :
    Calls Yba.prog 3 #[.string a0, .string a1, .string a2, .int .i64 a3, .int .i64 a4, .int .i64 a5, .int .i64 a6, .int .i64 a7, .bool false] w fun e w' => e = .returned (.bool true) ∧ Below w.heap.size w w' := by
  cases h6 : (a6 == 0)
  all_goals
    have e1 := eq_nil
    have e2 := eq_func
    have hp := first_pick a6 10 h6
    simp at hp
    go_enter Yba.func3, Yba.ntmps3
    go_wp2_with fail
    refine (wd_nil _ _ _ _ _ _ _ _ _).mono ?_
    rintro e w1 ⟨rfl, hb⟩
    obtain ⟨hc0, hcj, hf0⟩ := facts hb
    have hb0 : Below w.heap.size w w1 := (below_alloc (below_alloc (Below.refl _ _) _) _).trans (hb.mono (by simp; omega))
    have hz := hb.size
    clear hb
    simp only [World.size_alloc] at hz
    go_wp2_with fail
    go_quiet ((go_at_call 6; exact Calls.quiet_of_same (pick_any _ _ _)))
    go_wp2_with fail
    go_quiet ((go_at_call 6; refine (pick_any _ _ _).mono ?_; rintro e w' ⟨rfl, rfl⟩; exact ⟨rfl, _, rfl⟩))
    go_wp2_with fail
    go_quiet ((go_at_call 6; refine (pick_any _ _ _).mono ?_; rintro e w' ⟨rfl, rfl⟩; exact ⟨rfl, _, rfl⟩))
    go_wp2_with fail
    go_ret
    exact ⟨rfl, bdN (below_alloc hb0 _) _⟩

set_option maxHeartbeats 4000000 in
set_option maxRecDepth 100000 in
theorem law_func (a0 a1 a2 : ByteArray) (a3 a4 a5 a6 a7 : Int) (w : World) :
    Calls Yba.prog 3 #[.string a0, .string a1, .string a2, .int .i64 a3, .int .i64 a4, .int .i64 a5, .int .i64 a6, .int .i64 a7, .bool true] w fun e w' => e = .returned (.bool true) ∧ Below w.heap.size w w' := by
  cases h6 : (a6 == 0)
  all_goals
    have e1 := eq_nil
    have e2 := eq_func
    have hp := first_pick a6 10 h6
    simp at hp
    go_enter Yba.func3, Yba.ntmps3
    go_wp2_with fail
    refine (wd_func _ _ _ _ _ _ _ _ _ _).mono ?_
    rintro e w1 ⟨rfl, hb⟩
    obtain ⟨hc0, hcj, hf0⟩ := facts hb
    have hb0 : Below w.heap.size w w1 := (below_alloc (below_alloc (Below.refl _ _) _) _).trans (hb.mono (by simp; omega))
    have hz := hb.size
    clear hb
    simp only [World.size_alloc] at hz
    go_wp2_with fail
    go_quiet ((go_at_call 6; exact Calls.quiet_of_same (pick_any _ _ _)))
    go_wp2_with fail
    go_quiet ((go_at_call 6; refine (pick_any _ _ _).mono ?_; rintro e w' ⟨rfl, rfl⟩; exact ⟨rfl, _, rfl⟩))
    go_wp2_with fail
    go_quiet ((go_at_call 6; refine (pick_any _ _ _).mono ?_; rintro e w' ⟨rfl, rfl⟩; exact ⟨rfl, _, rfl⟩))
    go_wp2_with fail
    go_wp2
    go_end0
    go_wp2
    go_ret
    exact ⟨rfl, (bdN (below_alloc hb0 _) _).setCell (Nat.le_refl _) _⟩

end Go.Proofs.Ybulkeani
