/-
  THE WALK OF LawS0455ABoundary: one walk an edge.
-/
import Derived.Test.YbulkikaChars
namespace Go.Proofs.Ybulkika
open Go.ChangeShapes Go.WideShapes Go.ChangeAt Go.RowKit

theorem grown_trans {W a b : World} (h : Grown W a) (k : Grown a b) : Grown W b := ⟨World.keptBut_trans h.1 k.1, fun x => (k.2.1 x).trans (h.2.1 x), Nat.le_trans h.2.2 k.2.2⟩

set_option maxHeartbeats 4000000 in
set_option maxRecDepth 20000 in
theorem law_boundary (s d : Int) (w : World) (s0 : 0 ≤ s) (s1 : s ≤ 255) (d0 : -128 ≤ d) (d1 : d ≤ 127) :
    Calls Yba.prog 4 #[.int .u8 s, .int .i8 d] w fun e w' => e = .returned (.bool true) ∧ Grown w w' := by
  have hm : s % 11 = 0 ∨ s % 11 = 1 ∨ s % 11 = 2 ∨ s % 11 = 3 ∨ s % 11 = 4 ∨ s % 11 = 5 ∨ s % 11 = 6 ∨ s % 11 = 7 ∨ s % 11 = 8 ∨ s % 11 = 9 ∨ s % 11 = 10 := by omega
  rcases hm with h | h | h | h | h | h | h | h | h | h | h
  all_goals
    go_enter Yba.func4, Yba.ntmps4
    go_wp2_with fail
    refine (isChar_any _ _).mono ?_
    rintro e w' ⟨rfl, rfl⟩
    go_wp2_with fail
    refine (model_any _ _ (by omega) (by omega)).mono ?_
    rintro e w' ⟨rfl, hg⟩
    go_wp2
    go_ret
    exact ⟨ret_bool (by simp), grown_trans ((Grown.refl _).alloc _ _) hg⟩

end Go.Proofs.Ybulkika
