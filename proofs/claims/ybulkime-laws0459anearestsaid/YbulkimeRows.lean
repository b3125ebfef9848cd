/-
  No cell of these rows narrows 'for every input' (looked for: loops, veiled, ifaces, maps, wideKeys, modest, calm, conditions, laid).
  DERIVED. THE GIVEN ROWS OF THIS SEAT. 2 by the template 'for every input the law returns true; each argument reads behind the call as it read before'; 0 by the template 'total and deterministic' (their statements: YbulkimeTotals.lean).
  GIVEN WITH THE SEED: the statements are not yours to turn. If you find one false, say at which input.
  Laid BY PROGRAM, IN A SANDBOX (cutbox-rows.mjs): the forced cells as the released guide's own fill.sh prints them over the translation d02b45071efa510a… (all of the seat's roots in one cut). By AI agents, Wed Nov 11 2026. No macro, syntax, notation, axiom, sorry.
-/
import Derived.Test.YbulkimeChecked
import GoSem.Claim
import GoSem.ClaimJoined
import GoSem.ClaimMapViews
import Derived.JoinedTies
import Derived.KernelRfl
namespace Go.Proofs.Ybulkime
/- THE CELL 'sum', in the pinned program and in every row, IS THE sha256 OF THE DUMP (.gsa) THAT YbulkimeProg.lean LOADS. Nothing in Lean hashes anything: it is a label: what it is worth is what the hold of that sum in a sandbox is worth. -/
noncomputable def Yba.pinned : Pinned := { name := "ybulkime", sum := "d02b45071efa510abf3586605d6d502323686daf5732926f5004f2ab1858c9c5", checked := Yba.checked }
namespace Rows
def none {H : Type} : Left H := { results := [], args := [] }

/-- 'wendloom.LawS0459ANearest': WHATEVER THE INPUT: true; the input reads as it did. -/
def lawS0459ANearestSpec : ChangeSpec := { name := "lawS0459ANearest", fn := fun _ => fun
  | [d1, d2, d3, d4] => { results := [.lit (.bool true)], args := [d1, d2, d3, d4] }
  | _ => none }
def lawS0459ANearestRow : OpenClaim := { program := "ybulkime", sum := "d02b45071efa510abf3586605d6d502323686daf5732926f5004f2ab1858c9c5", func := "wendloom.example/wendloom.LawS0459ANearest", spec := "lawS0459ANearest", apart := false }
def LawS0459ANearestSaid : Prop := lawS0459ANearestRow.holds Yba.pinned (OpenSpec.ofChange lawS0459ANearestSpec)

/-- ITS FALSE NEIGHBOUR: 'it returns false'. Refute it at one input. -/
def lawS0459ANearestWrong : ChangeSpec := { name := "lawS0459ANearest", fn := fun _ => fun
  | [d1, d2, d3, d4] => { results := [.lit (.bool false)], args := [d1, d2, d3, d4] }
  | _ => none }
def LawS0459ANearestWrongFalsely : Prop := lawS0459ANearestRow.holds Yba.pinned (OpenSpec.ofChange lawS0459ANearestWrong)

/-- 'wendloom.LawS0459AValueAgrees': WHATEVER THE INPUT: true; the input reads as it did. -/
def lawS0459AValueAgreesSpec : ChangeSpec := { name := "lawS0459AValueAgrees", fn := fun _ => fun
  | [d1, d2, d3, d4] => { results := [.lit (.bool true)], args := [d1, d2, d3, d4] }
  | _ => none }
def lawS0459AValueAgreesRow : OpenClaim := { program := "ybulkime", sum := "d02b45071efa510abf3586605d6d502323686daf5732926f5004f2ab1858c9c5", func := "wendloom.example/wendloom.LawS0459AValueAgrees", spec := "lawS0459AValueAgrees", apart := false }
def LawS0459AValueAgreesSaid : Prop := lawS0459AValueAgreesRow.holds Yba.pinned (OpenSpec.ofChange lawS0459AValueAgreesSpec)

/-- ITS FALSE NEIGHBOUR: 'it returns false'. Refute it at one input. -/
def lawS0459AValueAgreesWrong : ChangeSpec := { name := "lawS0459AValueAgrees", fn := fun _ => fun
  | [d1, d2, d3, d4] => { results := [.lit (.bool false)], args := [d1, d2, d3, d4] }
  | _ => none }
def LawS0459AValueAgreesWrongFalsely : Prop := lawS0459AValueAgreesRow.holds Yba.pinned (OpenSpec.ofChange lawS0459AValueAgreesWrong)

end Rows
end Go.Proofs.Ybulkime
