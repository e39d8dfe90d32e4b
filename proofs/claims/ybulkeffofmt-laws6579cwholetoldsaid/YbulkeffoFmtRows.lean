/-
  No cell of these rows narrows 'for every input' (looked for: loops, veiled, ifaces, maps, wideKeys, modest, calm, conditions, laid).
  DERIVED. THE GIVEN ROWS OF THIS SEAT. 1 by the template 'for every input the law returns true; each argument reads behind the call as it read before'; 0 by the template 'total and deterministic' (their statements: YbulkeffoFmtTotals.lean).
  GIVEN WITH THE SEED: the statements are not yours to turn. If you find one false, say at which input.
  Laid BY PROGRAM, IN A SANDBOX (cutbox-rows.mjs): the forced cells as the released guide's own fill.sh prints them over the translation f627cf3df1a79741… (all of the seat's roots in one cut). By AI agents, Wed Nov 11 2026. No macro, syntax, notation, axiom, sorry.
-/
import Derived.Test.YbulkeffoFmtChecked
import GoSem.Claim
import GoSem.ClaimJoined
import GoSem.ClaimMapViews
import Derived.JoinedTies
import Derived.KernelRfl
namespace Go.Proofs.YbulkeffoFmt
/- THE CELL 'sum', in the pinned program and in every row, IS THE sha256 OF THE DUMP (.gsa) THAT YbulkeffoFmtProg.lean LOADS. Nothing in Lean hashes anything: it is a label: what it is worth is what the hold of that sum in a sandbox is worth. -/
noncomputable def Ybaf.pinned : Pinned := { name := "ybulkeffofmt", sum := "f627cf3df1a79741770d6b87c74c3151277da714d1f949cf344103bef18946da", checked := Ybaf.checked }
namespace Rows
def none {H : Type} : Left H := { results := [], args := [] }

/-- 'ledgerline.LawS6579CWhole': WHATEVER THE INPUT: true; the input reads as it did. -/
def lawS6579CWholeSpec : ChangeSpec := { name := "lawS6579CWhole", fn := fun _ => fun
  | [d1, d2] => { results := [.lit (.bool true)], args := [d1, d2] }
  | _ => none }
def lawS6579CWholeRow : OpenClaim := { program := "ybulkeffofmt", sum := "f627cf3df1a79741770d6b87c74c3151277da714d1f949cf344103bef18946da", func := "example.com/ledgerline/ledgerline.LawS6579CWhole", spec := "lawS6579CWhole", stops := ["fmt.Sprintf"], inPlace := ["fmt.Sprintf"], apart := false }
/-- NO THEOREM (fmt's text is open here; it may be false): for the released tool's asking of the row's closed facts alone. THE STATEMENT IS 'LawS6579CWholeToldSaid' (YbulkeffoFmtCards.lean). -/
def LawS6579CWholeFormAsk : Prop := lawS6579CWholeRow.holds Ybaf.pinned (OpenSpec.ofChange lawS6579CWholeSpec)

/-- ITS FALSE NEIGHBOUR: 'it returns false'. Refute it at one input. -/
def lawS6579CWholeWrong : ChangeSpec := { name := "lawS6579CWhole", fn := fun _ => fun
  | [d1, d2] => { results := [.lit (.bool false)], args := [d1, d2] }
  | _ => none }
def LawS6579CWholeWrongFormAsk : Prop := lawS6579CWholeRow.holds Ybaf.pinned (OpenSpec.ofChange lawS6579CWholeWrong)

end Rows
end Go.Proofs.YbulkeffoFmt
