/-
  No cell of these rows narrows 'for every input' (looked for: loops, veiled, ifaces, maps, wideKeys, modest, calm, conditions, laid).
  DERIVED. THE GIVEN ROWS OF THIS SEAT. 2 by the template 'for every input the law returns true; each argument reads behind the call as it read before'; 0 by the template 'total and deterministic' (their statements: YbulkikaTotals.lean).
  GIVEN WITH THE SEED: the statements are not yours to turn. If you find one false, say at which input.
  Laid BY PROGRAM, IN A SANDBOX (cutbox-rows.mjs): the forced cells as the released guide's own fill.sh prints them over the translation f6631f459cab5ef0… (all of the seat's roots in one cut). By AI agents, Wed Nov 11 2026. No macro, syntax, notation, axiom, sorry.
-/
import Derived.Test.YbulkikaChecked
import GoSem.Claim
import GoSem.ClaimJoined
import GoSem.ClaimMapViews
import Derived.JoinedTies
import Derived.KernelRfl
namespace Go.Proofs.Ybulkika
/- THE CELL 'sum', in the pinned program and in every row, IS THE sha256 OF THE DUMP (.gsa) THAT YbulkikaProg.lean LOADS. Nothing in Lean hashes anything: it is a label: what it is worth is what the hold of that sum in a sandbox is worth. -/
noncomputable def Yba.pinned : Pinned := { name := "ybulkika", sum := "f6631f459cab5ef0be00a73c94c7c48a7455b610cd118908a88be5f6b76add7a", checked := Yba.checked }
namespace Rows
def none {H : Type} : Left H := { results := [], args := [] }

/-- 'xmltree.LawS0455AModel': WHATEVER THE INPUT: true; the input reads as it did. -/
def lawS0455AModelSpec : ChangeSpec := { name := "lawS0455AModel", fn := fun _ => fun
  | [d] => { results := [.lit (.bool true)], args := [d] }
  | _ => none }
def lawS0455AModelRow : OpenClaim := { program := "ybulkika", sum := "f6631f459cab5ef0be00a73c94c7c48a7455b610cd118908a88be5f6b76add7a", func := "example.com/pollkeep/pollkeep/xmltree.LawS0455AModel", spec := "lawS0455AModel", apart := false }
def LawS0455AModelSaid : Prop := lawS0455AModelRow.holds Yba.pinned (OpenSpec.ofChange lawS0455AModelSpec)

/-- ITS FALSE NEIGHBOUR: 'it returns false'. Refute it at one input. -/
def lawS0455AModelWrong : ChangeSpec := { name := "lawS0455AModel", fn := fun _ => fun
  | [d] => { results := [.lit (.bool false)], args := [d] }
  | _ => none }
def LawS0455AModelWrongFalsely : Prop := lawS0455AModelRow.holds Yba.pinned (OpenSpec.ofChange lawS0455AModelWrong)

/-- 'xmltree.LawS0455ABoundary': WHATEVER THE INPUT: true; the input reads as it did. -/
def lawS0455ABoundarySpec : ChangeSpec := { name := "lawS0455ABoundary", fn := fun _ => fun
  | [d1, d2] => { results := [.lit (.bool true)], args := [d1, d2] }
  | _ => none }
def lawS0455ABoundaryRow : OpenClaim := { program := "ybulkika", sum := "f6631f459cab5ef0be00a73c94c7c48a7455b610cd118908a88be5f6b76add7a", func := "example.com/pollkeep/pollkeep/xmltree.LawS0455ABoundary", spec := "lawS0455ABoundary", apart := false }
def LawS0455ABoundarySaid : Prop := lawS0455ABoundaryRow.holds Yba.pinned (OpenSpec.ofChange lawS0455ABoundarySpec)

/-- ITS FALSE NEIGHBOUR: 'it returns false'. Refute it at one input. -/
def lawS0455ABoundaryWrong : ChangeSpec := { name := "lawS0455ABoundary", fn := fun _ => fun
  | [d1, d2] => { results := [.lit (.bool false)], args := [d1, d2] }
  | _ => none }
def LawS0455ABoundaryWrongFalsely : Prop := lawS0455ABoundaryRow.holds Yba.pinned (OpenSpec.ofChange lawS0455ABoundaryWrong)

end Rows
end Go.Proofs.Ybulkika
