/-
  No cell of these rows narrows 'for every input' (looked for: loops, veiled, ifaces, maps, wideKeys, modest, calm, conditions, laid).
  DERIVED. THE GIVEN ROWS OF THIS SEAT. 2 by the template 'for every input the law returns true; each argument reads behind the call as it read before'; 0 by the template 'total and deterministic' (their statements: YbulkeaqaTotals.lean).
  GIVEN WITH THE SEED: the statements are not yours to turn. If you find one false, say at which input.
  Laid BY PROGRAM, IN A SANDBOX (cutbox-rows.mjs): the forced cells as the released guide's own fill.sh prints them over the translation 0289b0a66f4e3042… (all of the seat's roots in one cut). By AI agents, Wed Nov 11 2026. No macro, syntax, notation, axiom, sorry.
-/
import Derived.Test.YbulkeaqaChecked
import GoSem.Claim
import GoSem.ClaimJoined
import GoSem.ClaimMapViews
import Derived.JoinedTies
import Derived.KernelRfl
namespace Go.Proofs.Ybulkeaqa
/- THE CELL 'sum', in the pinned program and in every row, IS THE sha256 OF THE DUMP (.gsa) THAT YbulkeaqaProg.lean LOADS. Nothing in Lean hashes anything: it is a label: what it is worth is what the hold of that sum in a sandbox is worth. -/
noncomputable def Yba.pinned : Pinned := { name := "ybulkeaqa", sum := "0289b0a66f4e304287922ba074345d4fb0431f92d3b3c9424ec05aba5c9d6dae", checked := Yba.checked }
namespace Rows
def none {H : Type} : Left H := { results := [], args := [] }

/-- 'driftmap.LawS6357BWhole': WHATEVER THE INPUT: true; the input reads as it did. -/
def lawS6357BWholeSpec : ChangeSpec := { name := "lawS6357BWhole", fn := fun _ => fun
  | [d1, d2, d3, d4, d5, d6] => { results := [.lit (.bool true)], args := [d1, d2, d3, d4, d5, d6] }
  | _ => none }
def lawS6357BWholeRow : OpenClaim := { program := "ybulkeaqa", sum := "0289b0a66f4e304287922ba074345d4fb0431f92d3b3c9424ec05aba5c9d6dae", func := "example.com/driftmap/driftmap.LawS6357BWhole", spec := "lawS6357BWhole", inPlace := ["sync/atomic.LoadUint32"], unfollowed := true, recurses := true, apart := false }
def LawS6357BWholeSaid : Prop := lawS6357BWholeRow.holds Yba.pinned (OpenSpec.ofChange lawS6357BWholeSpec)

/-- ITS FALSE NEIGHBOUR: 'it returns false'. Refute it at one input. -/
def lawS6357BWholeWrong : ChangeSpec := { name := "lawS6357BWhole", fn := fun _ => fun
  | [d1, d2, d3, d4, d5, d6] => { results := [.lit (.bool false)], args := [d1, d2, d3, d4, d5, d6] }
  | _ => none }
def LawS6357BWholeWrongFalsely : Prop := lawS6357BWholeRow.holds Yba.pinned (OpenSpec.ofChange lawS6357BWholeWrong)

/-- 'driftmap.LawS6357CWhole': WHATEVER THE INPUT: true; the input reads as it did. -/
def lawS6357CWholeSpec : ChangeSpec := { name := "lawS6357CWhole", fn := fun _ => fun
  | [d1, d2] => { results := [.lit (.bool true)], args := [d1, d2] }
  | _ => none }
def lawS6357CWholeRow : OpenClaim := { program := "ybulkeaqa", sum := "0289b0a66f4e304287922ba074345d4fb0431f92d3b3c9424ec05aba5c9d6dae", func := "example.com/driftmap/driftmap.LawS6357CWhole", spec := "lawS6357CWhole", unfollowed := true, recurses := true, apart := false }
def LawS6357CWholeSaid : Prop := lawS6357CWholeRow.holds Yba.pinned (OpenSpec.ofChange lawS6357CWholeSpec)

/-- ITS FALSE NEIGHBOUR: 'it returns false'. Refute it at one input. -/
def lawS6357CWholeWrong : ChangeSpec := { name := "lawS6357CWhole", fn := fun _ => fun
  | [d1, d2] => { results := [.lit (.bool false)], args := [d1, d2] }
  | _ => none }
def LawS6357CWholeWrongFalsely : Prop := lawS6357CWholeRow.holds Yba.pinned (OpenSpec.ofChange lawS6357CWholeWrong)

end Rows
end Go.Proofs.Ybulkeaqa
