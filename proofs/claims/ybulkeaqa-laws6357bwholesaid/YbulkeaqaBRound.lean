/- S6357B: a region in a round, by the walk of a region outside it. -/
import Derived.Test.YbulkeaqaBStep
import Derived.Deep.RegionHeld3
namespace Go.Proofs.Ybulkeaqa
open Go.RowKit Go.Shelf
set_option linter.unusedSimpArgs false

theorem oper_round {P : Program} {o : Oper} {a : Act} {w : World} {K : Act → World → Prop} {Q : Exit → Act → World → Prop} (l n : Nat) (hd : ∀ c, o.op ≠ .defer c) (h : o.wp P a w K Q) : o.wpIn (Fence.wide.inRound l) n P a w K Q := by
  refine ⟨fun _ _ => trivial, ?_⟩
  show o.uponIn (Fence.wide.inRound l) n P a K Q ((Oper.semAt (some l) a.eval o).run P w)
  rw [Oper.semAt_some l a.eval o hd]
  unfold Oper.wp at h
  generalize (execOp a.eval o).run P w = r at h ⊢
  have hdep : ∀ {p : Prop}, ((Fence.wide.inRound l).depth.isSome = true → p) := fun h => by simp [Fence.wide, Fence.inRound] at h
  cases r with
  | ok x w' =>
    cases x with
    | value v => exact h
    | skip => exact h
    | defer d => exact h
    | enter f args => exact ⟨hdep, callsIn_wide.2 h⟩
    | row rw args => exact ⟨hdep, fun c cs _ => by obtain ⟨v, w2, hr, hs⟩ := h c cs; exact ⟨v, w2, hr, stepsIn_wide.2 hs⟩⟩
    | round l2 f tmps assign body => exact h.elim
    | _ => exact h
  | halt x w' =>
    cases x with
    | panic v => exact h
    | _ => exact h

theorem op_round {P : Program} {ops : Array Oper} {Q : Exit → Act → World → Prop} {i : Nat} {K K' : Act → World → Prop} {a : Act} {w : World} (l n : Nat) (hd : ∀ o ∈ ops, ∀ c, o.op ≠ .defer c) (hno : ¬ LetsOut Q) (hK : ∀ a w, K a w → K' a w) (h : wpOp P ops Q i K a w) : wpOpIn (Fence.wide.inRound l) n P ops Q i K' a w := by
  unfold wpOp at h
  unfold wpOpIn
  cases ho : ops[i]? with
  | none => rw [ho] at h; exact hK _ _ h
  | some o =>
    rw [ho] at h
    simp only at h ⊢
    by_cases hw : Region.wanted o (yielded ops a.tmps) = true
    · rw [if_pos hw] at h ⊢
      rcases h with h | ⟨_, h⟩
      · exact Oper.wpIn_mono hK (oper_round l n (hd o (Array.mem_of_getElem? ho)) h)
      · exact absurd h hno
    · rw [if_neg hw] at h ⊢
      exact ⟨fun _ _ => trivial, hK _ _ h⟩

theorem any_round {P : Program} {md : Region.Mode} {ops : Array Oper} {Q : Exit → Act → World → Prop} (l n : Nat) (hd : ∀ o ∈ ops, ∀ c, o.op ≠ .defer c) (hno : ¬ LetsOut Q) : ∀ fuel L a w, wpAny P md ops Q fuel L a w → wpAnyIn (Fence.wide.inRound l) n P md ops Q fuel L a w
  | 0, _, _, _, h => h
  | fuel + 1, _, _, _, h => ⟨h.1, fun i hi => op_round l n hd hno (fun a w => any_round l n hd hno fuel _ a w) (h.2 i hi)⟩

/-- A region that draws, in a round: by the walk of all its orders outside one. -/
theorem region_round {P : Program} {id : Nat} {ops : Array Oper} {Q : Exit → Act → World → Prop} {a : Act} {w : World} (l n : Nat) (hm : P.follows .mixedOrders = true) (hd : ∀ o ∈ ops, ∀ c, o.op ≠ .defer c) (hno : ¬ LetsOut Q)
    (h : wpAny P .any ops Q ops.size (Array.replicate ops.size false) a { w with drawn := w.drawn + 1 }) : (Code.region id ops true).wpIn (Fence.wide.inRound l) n P Q a w :=
  wpIn_region_any hm (any_round l n hd hno _ _ _ _ h)
end Go.Proofs.Ybulkeaqa
