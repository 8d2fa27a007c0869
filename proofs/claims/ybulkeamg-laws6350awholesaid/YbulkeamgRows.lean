/-
  No cell of these rows narrows 'for every input' (looked for: loops, veiled, ifaces, maps, wideKeys, modest, calm, conditions, laid).
  DERIVED. THE GIVEN ROWS OF THIS SEAT. 1 by the template 'for every input the law returns true; each argument reads behind the call as it read before'; 0 by the template 'total and deterministic' (their statements: YbulkeamgTotals.lean).
  GIVEN WITH THE SEED: the statements are not yours to turn. If you find one false, say at which input.
  Laid BY PROGRAM, IN A SANDBOX (cutbox-rows.mjs): the forced cells as the released guide's own fill.sh prints them over the translation a69d042f4af2a57e… (all of the seat's roots in one cut). By AI agents, Wed Nov 11 2026. No macro, syntax, notation, axiom, sorry.
-/
import Derived.Test.YbulkeamgChecked
import GoSem.Claim
import GoSem.ClaimJoined
import GoSem.ClaimMapViews
import Derived.JoinedTies
import Derived.KernelRfl
namespace Go.Proofs.Ybulkeamg
/- THE CELL 'sum', in the pinned program and in every row, IS THE sha256 OF THE DUMP (.gsa) THAT YbulkeamgProg.lean LOADS. Nothing in Lean hashes anything: it is a label: what it is worth is what the hold of that sum in a sandbox is worth. -/
noncomputable def Yba.pinned : Pinned := { name := "ybulkeamg", sum := "a69d042f4af2a57eadafaff5d58562a584f5e7f6a2d4335c1ffb2cf4e5a1ea43", checked := Yba.checked }
namespace Rows
def none {H : Type} : Left H := { results := [], args := [] }

/-- 'tideline.LawS6350AWhole': WHATEVER THE INPUT: true; the input reads as it did. -/
def lawS6350AWholeSpec : ChangeSpec := { name := "lawS6350AWhole", fn := fun _ => fun
  | [d1, d2, d3, d4] => { results := [.lit (.bool true)], args := [d1, d2, d3, d4] }
  | _ => none }
def lawS6350AWholeRow : OpenClaim := { program := "ybulkeamg", sum := "a69d042f4af2a57eadafaff5d58562a584f5e7f6a2d4335c1ffb2cf4e5a1ea43", func := "example.com/tideline/tideline.LawS6350AWhole", spec := "lawS6350AWhole", apart := false }
def LawS6350AWholeSaid : Prop := lawS6350AWholeRow.holds Yba.pinned (OpenSpec.ofChange lawS6350AWholeSpec)

/-- ITS FALSE NEIGHBOUR: 'it returns false'. Refute it at one input. -/
def lawS6350AWholeWrong : ChangeSpec := { name := "lawS6350AWhole", fn := fun _ => fun
  | [d1, d2, d3, d4] => { results := [.lit (.bool false)], args := [d1, d2, d3, d4] }
  | _ => none }
def LawS6350AWholeWrongFalsely : Prop := lawS6350AWholeRow.holds Yba.pinned (OpenSpec.ofChange lawS6350AWholeWrong)

end Rows
end Go.Proofs.Ybulkeamg
