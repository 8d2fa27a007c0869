/- S6357B: a region of a great frame, the frame a letter. -/
import Derived.Test.YbulkeaqaBNeq
import Derived.Test.YbulkeaqaBMig
import Derived.Deep.RegionHeld3
import Derived.Great.Frames
namespace Go.Proofs.Ybulkeaqa
open Go.RowKit Go.Shelf

theorem opq {P : Program} {c : Code} {Q : Exit → Act → World → Prop} {w : World} {a0 : Act} (h : ∀ a, Hid (a = a0) → Code.wp P c Q a w) : Code.wp P c Q a0 w := h a0 rfl
theorem put_get {a a1 : Act} {d : Nat} {v : Value} (h : a1 = a.put (some d) v) (hz : d < a.tmps.size) : a1.tmps[d]? = some v := by rw [h]; simp [Act.put, hz]
theorem put_ne {a a1 : Act} {d j : Nat} {v u : Value} (h : a1 = a.put (some d) v) (hn : d ≠ j) (hj : a.tmps[j]? = some u) : a1.tmps[j]? = some u := by
  rw [h]; simp only [Act.put]; rw [Array.getElem?_setIfInBounds_ne hn]; exact hj
theorem put_size {a a1 : Act} {d : Nat} {v : Value} {n : Nat} (h : a1 = a.put (some d) v) (hz : a.tmps.size = n) : a1.tmps.size = n := by rw [h, Act.size_put, hz]
theorem wpAnyH_at {P : Program} {md : Region.Mode} {ops : Array Oper} {Q : Exit → Act → World → Prop} {S : World → Prop} {fuel : Nat} {listed : Array Bool} {a a1 : Act} {w : World} (h1 : a1 = a) (h : wpAnyH P md ops Q S fuel listed a1 w) : wpAnyH P md ops Q S fuel listed a w := h1 ▸ h
end Go.Proofs.Ybulkeaqa
