/-
  THE WALK OF LawS0453AExact.
-/
import Derived.Test.YbulkiiyDoorExact
import Derived.Test.YbulkiiyDoorExactN
namespace Go.Proofs.YbulkiiyDoor
open Go.RowKit Go.Lib


set_option maxHeartbeats 2000000 in
set_option maxRecDepth 100000 in
theorem exact_big (bp tp : Option Addr) (bn bc tn tc : Nat) (file kind : ByteArray) (line col : Int) (w : World) (h : 1024 < bn ∨ 1024 < file.size ∨ 1024 < kind.size ∨ 1024 < tn) :
    Calls Ybad.prog 3 #[.slice bp bn bc, .string file, .int .i64 line, .int .i64 col, .string kind, .slice tp tn tc] w fun e w' => e = .returned (.bool true) ∧ Below w.heap.size w w' := by
  by_cases h1 : (1024 : Int) < (bn : Int)
  · go_enter Ybad.func3, Ybad.ntmps3; go_wp2; go_ret; exact ⟨rfl, Below.refl _ _⟩
  by_cases h2 : (1024 : Int) < (file.size : Int)
  · go_enter Ybad.func3, Ybad.ntmps3; go_wp2; go_ret; exact ⟨rfl, Below.refl _ _⟩
  by_cases h3 : (1024 : Int) < (kind.size : Int)
  · go_enter Ybad.func3, Ybad.ntmps3; go_wp2; go_ret; exact ⟨rfl, Below.refl _ _⟩
  have h4 : (1024 : Int) < (tn : Int) := by omega
  go_enter Ybad.func3, Ybad.ntmps3
  go_wp2
  go_ret
  exact ⟨rfl, Below.refl _ _⟩

theorem file_cases (file : ByteArray) : file.toList.isEmpty = false ∨ file = ⟨#[]⟩ := by
  cases hf : file.toList.isEmpty with
  | false => exact .inl rfl
  | true =>
    refine .inr ?_
    rw [Lib.toList_data] at hf
    obtain ⟨d⟩ := file
    have h1 : d.toList = [] := by simpa using hf
    have h2 : d = #[] := by simpa using h1
    rw [h2]

theorem exact_any (bp tp : Option Addr) (bn bc tn tc : Nat) (file kind : ByteArray) (line col : Int) (X Bs : List UInt8) (w : World)
    (l0 : -9223372036854775808 ≤ line) (l1 : line ≤ 9223372036854775807) (c0 : -9223372036854775808 ≤ col) (c1 : col ≤ 9223372036854775807)
    (htab : Lib.TabBelow Ybad.prog w.heap.size w tabName .u64 Lib.pow10Tab) (hbs : Src w.heap.size w bp bn Bs) (hbp : bp = none → bn = 0 ∧ bc = 0) (hts : Src w.heap.size w tp tn X) :
    Calls Ybad.prog 3 #[.slice bp bn bc, .string file, .int .i64 line, .int .i64 col, .string kind, .slice tp tn tc] w fun e w' => e = .returned (.bool true) ∧ Below w.heap.size w w' := by
  by_cases hb : 1024 < bn ∨ 1024 < file.size ∨ 1024 < kind.size ∨ 1024 < tn
  · exact exact_big bp tp bn bc tn tc file kind line col w hb
  have hb1 : bn ≤ 1024 := by omega
  have hb2 : file.size ≤ 1024 := by omega
  have hb3 : kind.size ≤ 1024 := by omega
  have hb4 : tn ≤ 1024 := by omega
  obtain ⟨hl, rfl | ⟨b, o, rfl, hlt, hc⟩⟩ := hts
  · rcases file_cases file with hf | rfl
    · exact exact_fn bp bn bc file line col kind tp tc Bs w l0 l1 c0 c1 htab hbs hbp hf hb2 hb1 hb3
    · exact exact_en bp bn bc line col kind tp tc Bs w l0 l1 c0 c1 htab hbs hbp hb1 hb3
  · rcases file_cases file with hf | rfl
    · exact exact_ft bp bn bc file line col kind b o tn tc X Bs w l0 l1 c0 c1 htab hbs hbp hl hlt hc hf hb2 hb1 hb3 hb4
    · exact exact_et bp bn bc line col kind b o tn tc X Bs w l0 l1 c0 c1 htab hbs hbp hl hlt hc hb1 hb3 hb4

end Go.Proofs.YbulkiiyDoor
