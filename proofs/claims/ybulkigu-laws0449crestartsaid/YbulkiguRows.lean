/-
  No cell of these rows narrows 'for every input' (looked for: loops, veiled, ifaces, maps, wideKeys, modest, calm, conditions, laid).
  DERIVED. THE GIVEN ROWS OF THIS SEAT. 5 by the template 'for every input the law returns true; each argument reads behind the call as it read before'; 0 by the template 'total and deterministic' (their statements: YbulkiguTotals.lean).
  GIVEN WITH THE SEED: the statements are not yours to turn. If you find one false, say at which input.
  Laid BY PROGRAM, IN A SANDBOX (cutbox-rows.mjs): the forced cells as the released guide's own fill.sh prints them over the translation dfb93aa09b94a180… (all of the seat's roots in one cut). By AI agents, Wed Nov 11 2026. No macro, syntax, notation, axiom, sorry.
-/
import Derived.Test.YbulkiguChecked
import GoSem.Claim
import GoSem.ClaimJoined
import GoSem.ClaimMapViews
import Derived.JoinedTies
import Derived.KernelRfl
namespace Go.Proofs.Ybulkigu
/- THE CELL 'sum', in the pinned program and in every row, IS THE sha256 OF THE DUMP (.gsa) THAT YbulkiguProg.lean LOADS. Nothing in Lean hashes anything: it is a label: what it is worth is what the hold of that sum in a sandbox is worth. -/
noncomputable def Yba.pinned : Pinned := { name := "ybulkigu", sum := "dfb93aa09b94a180b19753474250b4cb44318dc1c563cfe411a4f35909efdfe2", checked := Yba.checked }
namespace Rows
def none {H : Type} : Left H := { results := [], args := [] }

/-- 'topology.LawS0449AKeeps': WHATEVER THE INPUT: true; the input reads as it did. -/
def lawS0449AKeepsSpec : ChangeSpec := { name := "lawS0449AKeeps", fn := fun _ => fun
  | [d] => { results := [.lit (.bool true)], args := [d] }
  | _ => none }
def lawS0449AKeepsRow : OpenClaim := { program := "ybulkigu", sum := "dfb93aa09b94a180b19753474250b4cb44318dc1c563cfe411a4f35909efdfe2", func := "example.com/byzantime/byzantime/pkg/topology.LawS0449AKeeps", spec := "lawS0449AKeeps", unfollowed := true, recurses := true, apart := false }
def LawS0449AKeepsSaid : Prop := lawS0449AKeepsRow.holds Yba.pinned (OpenSpec.ofChange lawS0449AKeepsSpec)

/-- ITS FALSE NEIGHBOUR: 'it returns false'. Refute it at one input. -/
def lawS0449AKeepsWrong : ChangeSpec := { name := "lawS0449AKeeps", fn := fun _ => fun
  | [d] => { results := [.lit (.bool false)], args := [d] }
  | _ => none }
def LawS0449AKeepsWrongFalsely : Prop := lawS0449AKeepsRow.holds Yba.pinned (OpenSpec.ofChange lawS0449AKeepsWrong)

/-- 'topology.LawS0449ACases': WHATEVER THE INPUT: true; the input reads as it did. -/
def lawS0449ACasesSpec : ChangeSpec := { name := "lawS0449ACases", fn := fun _ => fun
  | [d1, d2] => { results := [.lit (.bool true)], args := [d1, d2] }
  | _ => none }
def lawS0449ACasesRow : OpenClaim := { program := "ybulkigu", sum := "dfb93aa09b94a180b19753474250b4cb44318dc1c563cfe411a4f35909efdfe2", func := "example.com/byzantime/byzantime/pkg/topology.LawS0449ACases", spec := "lawS0449ACases", unfollowed := true, recurses := true, apart := false }
def LawS0449ACasesSaid : Prop := lawS0449ACasesRow.holds Yba.pinned (OpenSpec.ofChange lawS0449ACasesSpec)

/-- ITS FALSE NEIGHBOUR: 'it returns false'. Refute it at one input. -/
def lawS0449ACasesWrong : ChangeSpec := { name := "lawS0449ACases", fn := fun _ => fun
  | [d1, d2] => { results := [.lit (.bool false)], args := [d1, d2] }
  | _ => none }
def LawS0449ACasesWrongFalsely : Prop := lawS0449ACasesRow.holds Yba.pinned (OpenSpec.ofChange lawS0449ACasesWrong)

/-- 'ibft.LawS0449BBuilt': WHATEVER THE INPUT: true; the input reads as it did. -/
def lawS0449BBuiltSpec : ChangeSpec := { name := "lawS0449BBuilt", fn := fun _ => fun
  | [d1, d2, d3, d4, d5] => { results := [.lit (.bool true)], args := [d1, d2, d3, d4, d5] }
  | _ => none }
def lawS0449BBuiltRow : OpenClaim := { program := "ybulkigu", sum := "dfb93aa09b94a180b19753474250b4cb44318dc1c563cfe411a4f35909efdfe2", func := "example.com/byzantime/byzantime/internal/protocol/ibft.LawS0449BBuilt", spec := "lawS0449BBuilt", inPlace := ["math.Float64bits", "math.Float64frombits", "internal/chacha8rand.block"], unfollowed := true, recurses := true, named := ["encoding/binary.LittleEndian"], apart := false }
def LawS0449BBuiltSaid : Prop := lawS0449BBuiltRow.holds Yba.pinned (OpenSpec.ofChange lawS0449BBuiltSpec)

/-- ITS FALSE NEIGHBOUR: 'it returns false'. Refute it at one input. -/
def lawS0449BBuiltWrong : ChangeSpec := { name := "lawS0449BBuilt", fn := fun _ => fun
  | [d1, d2, d3, d4, d5] => { results := [.lit (.bool false)], args := [d1, d2, d3, d4, d5] }
  | _ => none }
def LawS0449BBuiltWrongFalsely : Prop := lawS0449BBuiltRow.holds Yba.pinned (OpenSpec.ofChange lawS0449BBuiltWrong)

/-- 'engine.LawS0449CFresh': WHATEVER THE INPUT: true; the input reads as it did. -/
def lawS0449CFreshSpec : ChangeSpec := { name := "lawS0449CFresh", fn := fun _ => fun
  | [d] => { results := [.lit (.bool true)], args := [d] }
  | _ => none }
def lawS0449CFreshRow : OpenClaim := { program := "ybulkigu", sum := "dfb93aa09b94a180b19753474250b4cb44318dc1c563cfe411a4f35909efdfe2", func := "example.com/byzantime/byzantime/internal/engine.LawS0449CFresh", spec := "lawS0449CFresh", unfollowed := true, recurses := true, apart := false }
def LawS0449CFreshSaid : Prop := lawS0449CFreshRow.holds Yba.pinned (OpenSpec.ofChange lawS0449CFreshSpec)

/-- ITS FALSE NEIGHBOUR: 'it returns false'. Refute it at one input. -/
def lawS0449CFreshWrong : ChangeSpec := { name := "lawS0449CFresh", fn := fun _ => fun
  | [d] => { results := [.lit (.bool false)], args := [d] }
  | _ => none }
def LawS0449CFreshWrongFalsely : Prop := lawS0449CFreshRow.holds Yba.pinned (OpenSpec.ofChange lawS0449CFreshWrong)

/-- 'engine.LawS0449CRestart': WHATEVER THE INPUT: true; the input reads as it did. -/
def lawS0449CRestartSpec : ChangeSpec := { name := "lawS0449CRestart", fn := fun _ => fun
  | [d1, d2, d3] => { results := [.lit (.bool true)], args := [d1, d2, d3] }
  | _ => none }
def lawS0449CRestartRow : OpenClaim := { program := "ybulkigu", sum := "dfb93aa09b94a180b19753474250b4cb44318dc1c563cfe411a4f35909efdfe2", func := "example.com/byzantime/byzantime/internal/engine.LawS0449CRestart", spec := "lawS0449CRestart", inPlace := ["math.Float64bits", "math.Float64frombits"], unfollowed := true, recurses := true, apart := false }
def LawS0449CRestartSaid : Prop := lawS0449CRestartRow.holds Yba.pinned (OpenSpec.ofChange lawS0449CRestartSpec)

/-- ITS FALSE NEIGHBOUR: 'it returns false'. Refute it at one input. -/
def lawS0449CRestartWrong : ChangeSpec := { name := "lawS0449CRestart", fn := fun _ => fun
  | [d1, d2, d3] => { results := [.lit (.bool false)], args := [d1, d2, d3] }
  | _ => none }
def LawS0449CRestartWrongFalsely : Prop := lawS0449CRestartRow.holds Yba.pinned (OpenSpec.ofChange lawS0449CRestartWrong)

end Rows
end Go.Proofs.Ybulkigu
