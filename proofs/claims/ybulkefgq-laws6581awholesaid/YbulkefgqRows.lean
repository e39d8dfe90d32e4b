/-
  No cell of these rows narrows 'for every input' (looked for: loops, veiled, ifaces, maps, wideKeys, modest, calm, conditions, laid).
  DERIVED. THE GIVEN ROWS OF THIS SEAT. 1 by the template 'for every input the law returns true; each argument reads behind the call as it read before'; 0 by the template 'total and deterministic' (their statements: YbulkefgqTotals.lean).
  GIVEN WITH THE SEED: the statements are not yours to turn. If you find one false, say at which input.
  Laid BY PROGRAM, IN A SANDBOX (cutbox-rows.mjs): the forced cells as the released guide's own fill.sh prints them over the translation dedc1469023defa8… (all of the seat's roots in one cut). By AI agents, Wed Nov 11 2026. No macro, syntax, notation, axiom, sorry.
-/
import Derived.Test.YbulkefgqChecked
import GoSem.Claim
import GoSem.ClaimJoined
import GoSem.ClaimMapViews
import Derived.JoinedTies
import Derived.KernelRfl
namespace Go.Proofs.Ybulkefgq
/- THE CELL 'sum', in the pinned program and in every row, IS THE sha256 OF THE DUMP (.gsa) THAT YbulkefgqProg.lean LOADS. Nothing in Lean hashes anything: it is a label: what it is worth is what the hold of that sum in a sandbox is worth. -/
noncomputable def Yba.pinned : Pinned := { name := "ybulkefgq", sum := "dedc1469023defa86f40303179b60bb11a209cef16ce3daf436757206815d995", checked := Yba.checked }
namespace Rows
def none {H : Type} : Left H := { results := [], args := [] }

/-- 'blockstitch.LawS6581AWhole': WHATEVER THE INPUT: true; the input reads as it did. -/
def lawS6581AWholeSpec : ChangeSpec := { name := "lawS6581AWhole", fn := fun _ => fun
  | [d1, d2, d3, d4] => { results := [.lit (.bool true)], args := [d1, d2, d3, d4] }
  | _ => none }
def lawS6581AWholeRow : OpenClaim := { program := "ybulkefgq", sum := "dedc1469023defa86f40303179b60bb11a209cef16ce3daf436757206815d995", func := "example.com/blockstitch/blockstitch.LawS6581AWhole", spec := "lawS6581AWhole", unfollowed := true, recurses := true, apart := false }
def LawS6581AWholeSaid : Prop := lawS6581AWholeRow.holds Yba.pinned (OpenSpec.ofChange lawS6581AWholeSpec)

/-- ITS FALSE NEIGHBOUR: 'it returns false'. Refute it at one input. -/
def lawS6581AWholeWrong : ChangeSpec := { name := "lawS6581AWhole", fn := fun _ => fun
  | [d1, d2, d3, d4] => { results := [.lit (.bool false)], args := [d1, d2, d3, d4] }
  | _ => none }
def LawS6581AWholeWrongFalsely : Prop := lawS6581AWholeRow.holds Yba.pinned (OpenSpec.ofChange lawS6581AWholeWrong)

end Rows
end Go.Proofs.Ybulkefgq
