/-
  No cell of these rows narrows 'for every input' (looked for: loops, veiled, ifaces, maps, wideKeys, modest, calm, conditions, laid).
  DERIVED. THE GIVEN ROWS OF THIS SEAT. 1 by the template 'for every input the law returns true; each argument reads behind the call as it read before'; 0 by the template 'total and deterministic' (their statements: YbulkeaniTotals.lean).
  GIVEN WITH THE SEED: the statements are not yours to turn. If you find one false, say at which input.
  Laid BY PROGRAM, IN A SANDBOX (cutbox-rows.mjs): the forced cells as the released guide's own fill.sh prints them over the translation 09b1d99da44f9882… (all of the seat's roots in one cut). By AI agents, Wed Nov 11 2026. No macro, syntax, notation, axiom, sorry.
-/
import Derived.Test.YbulkeaniChecked
import GoSem.Claim
import GoSem.ClaimJoined
import GoSem.ClaimMapViews
import Derived.JoinedTies
import Derived.KernelRfl
namespace Go.Proofs.Ybulkeani
/- THE CELL 'sum', in the pinned program and in every row, IS THE sha256 OF THE DUMP (.gsa) THAT YbulkeaniProg.lean LOADS. Nothing in Lean hashes anything: it is a label: what it is worth is what the hold of that sum in a sandbox is worth. -/
noncomputable def Yba.pinned : Pinned := { name := "ybulkeani", sum := "09b1d99da44f9882b79a011150f094aec54129f9dfbd6ffdf4b8cd53b16068a2", checked := Yba.checked }
namespace Rows
def none {H : Type} : Left H := { results := [], args := [] }

/-- 'gateway.LawS6352CWhole': WHATEVER THE INPUT: true; the input reads as it did. -/
def lawS6352CWholeSpec : ChangeSpec := { name := "lawS6352CWhole", fn := fun _ => fun
  | [d1, d2, d3, d4, d5, d6, d7, d8, d9] => { results := [.lit (.bool true)], args := [d1, d2, d3, d4, d5, d6, d7, d8, d9] }
  | _ => none }
def lawS6352CWholeRow : OpenClaim := { program := "ybulkeani", sum := "09b1d99da44f9882b79a011150f094aec54129f9dfbd6ffdf4b8cd53b16068a2", func := "example.com/shortwire/shortwire/gateway.LawS6352CWhole", spec := "lawS6352CWhole", unfollowed := true, recurses := true, apart := false }
def LawS6352CWholeSaid : Prop := lawS6352CWholeRow.holds Yba.pinned (OpenSpec.ofChange lawS6352CWholeSpec)

/-- ITS FALSE NEIGHBOUR: 'it returns false'. Refute it at one input. -/
def lawS6352CWholeWrong : ChangeSpec := { name := "lawS6352CWhole", fn := fun _ => fun
  | [d1, d2, d3, d4, d5, d6, d7, d8, d9] => { results := [.lit (.bool false)], args := [d1, d2, d3, d4, d5, d6, d7, d8, d9] }
  | _ => none }
def LawS6352CWholeWrongFalsely : Prop := lawS6352CWholeRow.holds Yba.pinned (OpenSpec.ofChange lawS6352CWholeWrong)

end Rows
end Go.Proofs.Ybulkeani
