/-
  THE WALKS OF engine.New AND (*Engine).NewTimer.
-/
import Derived.Test.YbulkiguRows
import Derived.WalkKit
import Derived.ProofKit
import Derived.OpenShut
import Derived.ShutString
import Derived.WalkSpells
import Derived.WalkLawsBesides
import Derived.LaidEqlPtr
namespace Go.Proofs.Ybulkigu
open Go.ChangeShapes Go.WideShapes Go.ChangeAt Go.RowKit

set_option maxHeartbeats 400000 in
theorem new_any (s : Int) (w : World) :
    Calls Yba.prog 11 #[.int .u64 s] w fun e w' => e = .returned (.pointer (some ⟨w.heap.size, 0, none⟩)) ∧ w' = w.alloc (.cells #[.float .f64 0, .int .u64 0, .slice none 0 0, .bool false, .int .u64 s, .int .u64 0] 51) := by
  go_enter Yba.func11, Yba.ntmps11
  go_wp2
  go_ret
  exact ⟨rfl, rfl⟩

set_option maxHeartbeats 400000 in
theorem newTimer_any (pe : Option Addr) (fn : Fn) (bs cs : Array Value) (w : World) :
    Calls Yba.prog 12 #[.pointer pe, .func fn bs cs] w fun e w' => e = .returned (.pointer (some ⟨w.heap.size, 0, none⟩)) ∧
      w' = w.alloc (.cells #[.pointer pe, .func fn bs cs, .float .f64 0, .bool false, .float .f64 0, .iface 98 (.func (.func 24) #[.pointer (some ⟨w.heap.size, 0, none⟩)] #[])] 86) := by
  go_enter Yba.func12, Yba.ntmps12
  go_wp2
  go_ret
  exact ⟨rfl, rfl⟩

theorem eql47 (a : Addr) (w : World) : (binOp .eql 47 (.pointer (some a)) (.pointer (some a))).run Yba.prog w = .ok (.bool true) w := by
  obtain ⟨j, hj⟩ : ∃ j, Yba.prog.info? 51 = some j := Option.isSome_iff_exists.1 (by kernel_rfl)
  exact run_eql_ptr_same w a Yba.underlying47 hj

theorem neq1 (f : Fn) (bs cs : Array Value) (w : World) : (binOp .neq 1 (.func f bs cs) .nilFunc).run Yba.prog w = .ok (.bool true) w := by
  have h : ∀ d : Nat, (Op.equalIn (d + 1) 1 (.func f bs cs) .nilFunc).run Yba.prog w = .ok false w := fun d => by
    simp [Op.equalIn, run_underlying Yba.underlying1]
  simp only [binOp]
  simp [Op.equal, Op.maxDepth, h 9999]

set_option maxHeartbeats 1000000 in
set_option maxRecDepth 20000 in
theorem fresh_any (s : Int) (w : World) :
    Calls Yba.prog 6 #[.int .u64 s] w fun e w' => e = .returned (.bool true) ∧ Grown w w' := by
  have hz : FloatKind.f64.format.order 0 0 = some .eq := by decide +kernel
  have hpp := eql47
  have hnf := neq1
  go_enter Yba.func6, Yba.ntmps6
  go_wp2_with fail
  refine (new_any _ _).mono ?_
  rintro e w' ⟨rfl, rfl⟩
  go_wp2_with fail
  refine (newTimer_any _ _ _ _ _).mono ?_
  rintro e w' ⟨rfl, rfl⟩
  go_wp2_with fail
  go_ret
  exact ⟨rfl, (((Grown.refl _).alloc _ _).alloc _ _).alloc _ _⟩

end Go.Proofs.Ybulkigu
