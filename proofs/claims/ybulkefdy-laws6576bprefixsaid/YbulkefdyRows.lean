/-
  No cell of these rows narrows 'for every input' (looked for: loops, veiled, ifaces, maps, wideKeys, modest, calm, conditions, laid).
  DERIVED. THE GIVEN ROWS OF THIS SEAT. 2 by the template 'for every input the law returns true; each argument reads behind the call as it read before'; 0 by the template 'total and deterministic' (their statements: YbulkefdyTotals.lean).
  GIVEN WITH THE SEED: the statements are not yours to turn. If you find one false, say at which input.
  Laid BY PROGRAM, IN A SANDBOX (cutbox-rows.mjs): the forced cells as the released guide's own fill.sh prints them over the translation dee60d7f82c67647… (all of the seat's roots in one cut). By AI agents, Wed Nov 11 2026. No macro, syntax, notation, axiom, sorry.
-/
import Derived.Test.YbulkefdyChecked
import GoSem.Claim
import GoSem.ClaimJoined
import GoSem.ClaimMapViews
import Derived.JoinedTies
import Derived.KernelRfl
namespace Go.Proofs.Ybulkefdy
/- THE CELL 'sum', in the pinned program and in every row, IS THE sha256 OF THE DUMP (.gsa) THAT YbulkefdyProg.lean LOADS. Nothing in Lean hashes anything: it is a label: what it is worth is what the hold of that sum in a sandbox is worth. -/
noncomputable def Yba.pinned : Pinned := { name := "ybulkefdy", sum := "dee60d7f82c67647bf1aa233b5d6aa76a23a443b99ea67a5c122e5861ea2423f", checked := Yba.checked }
namespace Rows
def none {H : Type} : Left H := { results := [], args := [] }

/-- 'member.LawS6576BPart': WHATEVER THE INPUT: true; the input reads as it did. -/
def lawS6576BPartSpec : ChangeSpec := { name := "lawS6576BPart", fn := fun _ => fun
  | [d1, d2] => { results := [.lit (.bool true)], args := [d1, d2] }
  | _ => none }
def lawS6576BPartRow : OpenClaim := { program := "ybulkefdy", sum := "dee60d7f82c67647bf1aa233b5d6aa76a23a443b99ea67a5c122e5861ea2423f", func := "example.com/rankwise/rankwise/member.LawS6576BPart", spec := "lawS6576BPart", inPlace := ["internal/chacha8rand.block"], named := ["encoding/binary.LittleEndian"], apart := false }
def LawS6576BPartSaid : Prop := lawS6576BPartRow.holds Yba.pinned (OpenSpec.ofChange lawS6576BPartSpec)

/-- ITS FALSE NEIGHBOUR: 'it returns false'. Refute it at one input. -/
def lawS6576BPartWrong : ChangeSpec := { name := "lawS6576BPart", fn := fun _ => fun
  | [d1, d2] => { results := [.lit (.bool false)], args := [d1, d2] }
  | _ => none }
def LawS6576BPartWrongFalsely : Prop := lawS6576BPartRow.holds Yba.pinned (OpenSpec.ofChange lawS6576BPartWrong)

/-- 'member.LawS6576BPrefix': WHATEVER THE INPUT: true; the input reads as it did. -/
def lawS6576BPrefixSpec : ChangeSpec := { name := "lawS6576BPrefix", fn := fun _ => fun
  | [d1, d2, d3] => { results := [.lit (.bool true)], args := [d1, d2, d3] }
  | _ => none }
def lawS6576BPrefixRow : OpenClaim := { program := "ybulkefdy", sum := "dee60d7f82c67647bf1aa233b5d6aa76a23a443b99ea67a5c122e5861ea2423f", func := "example.com/rankwise/rankwise/member.LawS6576BPrefix", spec := "lawS6576BPrefix", inPlace := ["internal/chacha8rand.block"], named := ["encoding/binary.LittleEndian"], apart := false }
def LawS6576BPrefixSaid : Prop := lawS6576BPrefixRow.holds Yba.pinned (OpenSpec.ofChange lawS6576BPrefixSpec)

/-- ITS FALSE NEIGHBOUR: 'it returns false'. Refute it at one input. -/
def lawS6576BPrefixWrong : ChangeSpec := { name := "lawS6576BPrefix", fn := fun _ => fun
  | [d1, d2, d3] => { results := [.lit (.bool false)], args := [d1, d2, d3] }
  | _ => none }
def LawS6576BPrefixWrongFalsely : Prop := lawS6576BPrefixRow.holds Yba.pinned (OpenSpec.ofChange lawS6576BPrefixWrong)

end Rows
end Go.Proofs.Ybulkefdy
