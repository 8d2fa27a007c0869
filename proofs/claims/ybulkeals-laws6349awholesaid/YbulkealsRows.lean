/-
  No cell of these rows narrows 'for every input' (looked for: loops, veiled, ifaces, maps, wideKeys, modest, calm, conditions, laid).
  DERIVED. THE GIVEN ROWS OF THIS SEAT. 1 by the template 'for every input the law returns true; each argument reads behind the call as it read before'; 0 by the template 'total and deterministic' (their statements: YbulkealsTotals.lean).
  GIVEN WITH THE SEED: the statements are not yours to turn. If you find one false, say at which input.
  Laid BY PROGRAM, IN A SANDBOX (cutbox-rows.mjs): the forced cells as the released guide's own fill.sh prints them over the translation 7b87eca3f6e7003e… (all of the seat's roots in one cut). By AI agents, Wed Nov 11 2026. No macro, syntax, notation, axiom, sorry.
-/
import Derived.Test.YbulkealsChecked
import GoSem.Claim
import GoSem.ClaimJoined
import GoSem.ClaimMapViews
import Derived.JoinedTies
import Derived.KernelRfl
namespace Go.Proofs.Ybulkeals
/- THE CELL 'sum', in the pinned program and in every row, IS THE sha256 OF THE DUMP (.gsa) THAT YbulkealsProg.lean LOADS. Nothing in Lean hashes anything: it is a label: what it is worth is what the hold of that sum in a sandbox is worth. -/
noncomputable def Yba.pinned : Pinned := { name := "ybulkeals", sum := "7b87eca3f6e7003e469b73142e7300041930bf0b0397bccdb9c181c3af2d56a1", checked := Yba.checked }
namespace Rows
def none {H : Type} : Left H := { results := [], args := [] }

/-- 'store.LawS6349AWhole': WHATEVER THE INPUT: true; the input reads as it did. -/
def lawS6349AWholeSpec : ChangeSpec := { name := "lawS6349AWhole", fn := fun _ => fun
  | [d1, d2, d3, d4] => { results := [.lit (.bool true)], args := [d1, d2, d3, d4] }
  | _ => none }
def lawS6349AWholeRow : OpenClaim := { program := "ybulkeals", sum := "7b87eca3f6e7003e469b73142e7300041930bf0b0397bccdb9c181c3af2d56a1", func := "example.com/connectory/connectory/pkg/store.LawS6349AWhole", spec := "lawS6349AWhole", unfollowed := true, recurses := true, apart := false }
def LawS6349AWholeSaid : Prop := lawS6349AWholeRow.holds Yba.pinned (OpenSpec.ofChange lawS6349AWholeSpec)

/-- ITS FALSE NEIGHBOUR: 'it returns false'. Refute it at one input. -/
def lawS6349AWholeWrong : ChangeSpec := { name := "lawS6349AWhole", fn := fun _ => fun
  | [d1, d2, d3, d4] => { results := [.lit (.bool false)], args := [d1, d2, d3, d4] }
  | _ => none }
def LawS6349AWholeWrongFalsely : Prop := lawS6349AWholeRow.holds Yba.pinned (OpenSpec.ofChange lawS6349AWholeWrong)

end Rows
end Go.Proofs.Ybulkeals
