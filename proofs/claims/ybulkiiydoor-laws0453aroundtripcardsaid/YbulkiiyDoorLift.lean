/-
  WHAT BOTH CARDS' PROOFS SHARE: the table out of the row's list; the door's own heap as a start; a slice of bytes that came in.
-/
import Derived.Test.YbulkiiyDoorEqual
import Derived.ProofKit
import Derived.LaidMore
import Derived.OpenShut
import Derived.ShutString
import Derived.ChangeOld
import Derived.Below
import Derived.Stop.Joined
import Derived.Stop.LaidErr
import Derived.Lib.LaidTab
namespace Go.Proofs.YbulkiiyDoor
open Go.ChangeShapes Go.WideShapes Go.ChangeAt Go.RowKit

theorem own : ownKnob Ybad.prog.godebug = none := by kernel_rfl
theorem laidOut : laidOutB Ybad.prog = true := by kernel_rfl
theorem gTab : Ybad.prog.globalNamed tabName = some 0 := by kernel_rfl
theorem tTab : (Ybad.prog.globals[0]?).map (·.type) = some 42 := by kernel_rfl

/-- the three listed variables, as the given rows have them -/
def laid3 : List (String × DataW Unit) := Rows.lawS0453AExactRow.laid

theorem tab_of_laid {W : World} (h : laidMetH Ybad.prog laid3 W) : Lib.TabIs Ybad.prog W tabName .u64 Lib.pow10Tab := by
  rw [MakeChecks.laidMetH_plain _ _ _ (by kernel_rfl)] at h
  have h1 := h.tail.tail
  have h2 : laidMet Ybad.prog [(tabName, Lib.tabData .u64 Lib.pow10Tab)] W := h1
  exact Lib.tabIs_of_head gTab tTab Ybad.underlying42 Ybad.underlying30 (by kernel_rfl) (by kernel_rfl) h2

theorem door_met (os : Os) (args : Array Value) : laidMetH Ybad.prog laid3 ((World.doorLaid Ybad.prog 24 os).forCall (fun _ _ => 0) ⟨#[], args, []⟩).memory :=
  laidMetH_of_parts3 (fuel := 8) (laidMet_of_run' 8 (by kernel_rfl) (by kernel_rfl)) (by kernel_rfl) (by kernel_rfl)

/-- WHAT THE WALK IS TOLD OF A SLICE OF INTEGERS THAT CAME IN -/
def IsRow (k : IntKind) (w : World) (a : Option Addr) (len cap : Nat) (zs : List Int) : Prop :=
  (a = none ∧ len = 0 ∧ cap = 0 ∧ zs = []) ∨
  ∃ x, a = some x ∧ len ≤ cap ∧ cap ≤ maxLen ∧ zs.length = cap ∧ (∀ i, i < zs.length → w.cell? (x.add i) = some (.int k (zs.getD i 0))) ∧ ∀ n ∈ zs, (Lit.int k n).wf = true

/-- the bytes that a list of numbers of kind uint8 stands for -/
def toBytes (zs : List Int) : List UInt8 := zs.map fun z => UInt8.ofNat z.toNat

theorem nums_toBytes (zs : List Int) (h : ∀ n ∈ zs, (Lit.int .u8 n).wf = true) : nums (toBytes zs) = zs := by
  induction zs with
  | nil => rfl
  | cons z zs ih =>
    have hz := bounds_u8 (h z (by simp))
    have e : ((UInt8.ofNat z.toNat).toNat : Int) = z := by
      rw [UInt8.toNat_ofNat']
      omega
    have ih' := ih (fun n hn => h n (by simp [hn]))
    simp only [nums, toBytes, List.map_cons] at ih' ⊢
    rw [e, ih']

theorem src_of_row {w : World} {a : Option Addr} {len cap : Nat} {zs : List Int} (h : IsRow .u8 w a len cap zs) :
    Src w.heap.size w a len (toBytes (zs.take len)) ∧ (a = none → len = 0 ∧ cap = 0) := by
  rcases h with ⟨rfl, rfl, rfl, rfl⟩ | ⟨x, rfl, hlc, _, hz, hc, hw⟩
  · exact ⟨⟨rfl, .inl rfl⟩, fun _ => ⟨rfl, rfl⟩⟩
  · refine ⟨⟨by simp [toBytes]; omega, ?_⟩, fun e => by cases e⟩
    by_cases h0 : len = 0
    · exact .inl h0
    · refine .inr ?_
      rw [nums_toBytes _ (fun n hn => hw n (List.mem_of_mem_take hn))]
      have hb : Lib.BytesIn w (some x) len zs := Lib.BytesIn.of_cells (fun i hi => hc i (by omega))
      obtain ⟨b, o, hp, hcc⟩ := hb (by omega)
      refine ⟨b, o, hp, World.block_lt_of_cell? w ⟨b, o + 0, none⟩ (hcc 0 (by omega)), fun i hi => ?_⟩
      rw [hcc i hi]
      simp [hi]

end Go.Proofs.YbulkiiyDoor
