/-
  THE WALKS OF isChar AND OF THE TABLE's MODEL: both answer the plain Bool 'cb'.
-/
import Derived.Test.YbulkikaRows
import Derived.WalkKit
import Derived.ProofKit
import Derived.OpenShut
import Derived.ShutString
import Derived.WalkSpells
namespace Go.Proofs.Ybulkika
open Go.ChangeShapes Go.WideShapes Go.ChangeAt Go.RowKit

/-- XML 1.0's Char, as a Bool on the rune's number -/
def cb (r : Int) : Bool := decide (r = 9 ∨ r = 10 ∨ r = 13 ∨ (32 ≤ r ∧ r ≤ 55295) ∨ (57344 ≤ r ∧ r ≤ 65533) ∨ (65536 ≤ r ∧ r ≤ 1114111))

theorem cb_true {r : Int} (h : r = 9 ∨ r = 10 ∨ r = 13 ∨ (32 ≤ r ∧ r ≤ 55295) ∨ (57344 ≤ r ∧ r ≤ 65533) ∨ (65536 ≤ r ∧ r ≤ 1114111)) : true = cb r := (decide_eq_true h).symm
theorem cb_false {r : Int} (h : ¬ (r = 9 ∨ r = 10 ∨ r = 13 ∨ (32 ≤ r ∧ r ≤ 55295) ∨ (57344 ≤ r ∧ r ≤ 65533) ∨ (65536 ≤ r ∧ r ≤ 1114111))) : false = cb r := (decide_eq_false h).symm
theorem cb_last {r : Int} (h : 65536 ≤ r) : decide (r ≤ 1114111) = cb r := by
  unfold cb
  exact decide_eq_decide.2 (by omega)

theorem ret_bool {a b : Bool} (h : a = b) : Ending.returned (.bool a) = .returned (.bool b) := by rw [h]

theorem eqT {a b : Int} (h : (a == b) = true) : a = b := by simpa using h
theorem eqF {a b : Int} (h : (a == b) = false) : a ≠ b := by simpa using h

set_option maxHeartbeats 1000000 in
theorem isChar_any (r : Int) (w : World) :
    Calls Yba.prog 5 #[.int .i32 r] w fun e w' => e = .returned (.bool (cb r)) ∧ w = w' := by
  by_cases h9 : r = 9
  · subst h9; go_enter Yba.func5, Yba.ntmps5; go_wp2; go_ret; exact ⟨rfl, rfl⟩
  by_cases h10 : r = 10
  · subst h10; go_enter Yba.func5, Yba.ntmps5; go_wp2; go_ret; exact ⟨rfl, rfl⟩
  by_cases h13 : r = 13
  · subst h13; go_enter Yba.func5, Yba.ntmps5; go_wp2; go_ret; exact ⟨rfl, rfl⟩
  have e9 : (r == 9) = false := by simpa using h9
  have e10 : (r == 10) = false := by simpa using h10
  have e13 : (r == 13) = false := by simpa using h13
  by_cases h1 : r < 32
  · go_enter Yba.func5, Yba.ntmps5; go_wp2; go_ret; exact ⟨ret_bool (cb_false (by omega)), rfl⟩
  by_cases h2 : r ≤ 55295
  · go_enter Yba.func5, Yba.ntmps5; go_wp2; go_ret; exact ⟨ret_bool (cb_true (by omega)), rfl⟩
  by_cases h3 : r < 57344
  · go_enter Yba.func5, Yba.ntmps5; go_wp2; go_ret; exact ⟨ret_bool (cb_false (by omega)), rfl⟩
  by_cases h4 : r ≤ 65533
  · go_enter Yba.func5, Yba.ntmps5; go_wp2; go_ret; exact ⟨ret_bool (cb_true (by omega)), rfl⟩
  by_cases h5 : 65536 ≤ r
  · go_enter Yba.func5, Yba.ntmps5; go_wp2; go_ret; exact ⟨ret_bool (cb_last h5), rfl⟩
  · go_enter Yba.func5, Yba.ntmps5; go_wp2; go_ret; exact ⟨ret_bool (cb_false (by omega)), rfl⟩

theorem grown2 (w : World) (c1 c2 : Array Value) : Grown w ((w.alloc (.cells c1 26)).alloc (.cells c2 26)) := ((Grown.refl _).alloc _ _).alloc _ _

set_option maxHeartbeats 4000000 in
set_option maxRecDepth 20000 in
theorem model_any (r : Int) (w : World) (h0 : -2147483648 ≤ r) (h1 : r ≤ 2147483647) :
    Calls Yba.prog 6 #[.int .i32 r] w fun e w' => e = .returned (.bool (cb r)) ∧ Grown w w' := by
  go_enter Yba.func6, Yba.ntmps6
  go_wp2
  refine wp_loop_rounds 7 ?_
  rw [rounds_succ]
  go_wp2
  all_goals try (go_ret; exact ⟨ret_bool (cb_true (by omega)), grown2 _ _ _⟩)
  iterate 5
    all_goals (rw [rounds_succ]; go_wp2)
    all_goals try (go_ret; exact ⟨ret_bool (cb_true (by omega)), grown2 _ _ _⟩)
  all_goals (rw [rounds_succ]; go_wp2)
  all_goals (go_ret; exact ⟨ret_bool (cb_false (by omega)), grown2 _ _ _⟩)

set_option maxHeartbeats 1000000 in
theorem law_model (r : Int) (w : World) (h0 : -2147483648 ≤ r) (h1 : r ≤ 2147483647) :
    Calls Yba.prog 3 #[.int .i32 r] w fun e w' => e = .returned (.bool true) ∧ Grown w w' := by
  have hb : (cb r == cb r) = true := by simp
  go_enter Yba.func3, Yba.ntmps3
  go_wp2_with fail
  refine (isChar_any _ _).mono ?_
  rintro e w' ⟨rfl, rfl⟩
  go_wp2_with fail
  refine (model_any _ _ h0 h1).mono ?_
  rintro e w' ⟨rfl, hg⟩
  go_wp2
  go_ret
  exact ⟨ret_bool (by simp), hg⟩

end Go.Proofs.Ybulkika
