/-
  bytes.Equal AT TWO ROWS OF THE CALL's OWN; a row that stays while others grow.
-/
import Derived.Test.YbulkiiyDoorFields
namespace Go.Proofs.YbulkiiyDoor
open Go.RowKit Go.Lib

theorem equal_bytes (p1 p2 : Option Addr) (n1 k1 n2 k2 : Nat) (T1 T2 : List UInt8) (w : World) (h1 : T1.length = n1) (h2 : T2.length = n2) (b1 : Lib.BytesIn w p1 n1 (nums T1)) (b2 : Lib.BytesIn w p2 n2 (nums T2)) :
    Calls Ybad.prog 7 #[.slice p1 n1 k1, .slice p2 n2 k2] w fun e w' => e = .returned (.bool (T1 == T2)) ∧ w = w' := by
  refine (Ybad.bytes_Equal_all p1 p2 n1 k1 n2 k2 (nums T1) (nums T2) w (by rw [nums_length, h1]) (by rw [nums_length, h2]) b1 b2).mono ?_
  rintro e w' ⟨rfl, rfl⟩
  exact ⟨by rw [bytesOf_nums, bytesOf_nums], rfl⟩

theorem equal_own (v1 v2 : Value) (B1 B2 : Nat) (T1 T2 : List UInt8) (w : World) (h1 : Own w B1 v1 T1) (h2 : Own w B2 v2 T2) :
    Calls Ybad.prog 7 #[v1, v2] w fun e w' => e = .returned (.bool (T1 == T2)) ∧ w = w' := by
  obtain ⟨p1, k1, rfl, -, -, -, b1, -⟩ := h1.form
  obtain ⟨p2, k2, rfl, -, -, -, b2, -⟩ := h2.form
  exact equal_bytes p1 p2 _ k1 _ k2 T1 T2 w rfl rfl b1 b2

theorem Own.later {w w' : World} {B B1 : Nat} {v : Value} {T : List UInt8} (h : Own w B v T) (hb : Below B1 w w') (h1 : w.heap.size ≤ B1) : Own w' B v T := by
  refine ⟨h.1, ?_⟩
  rcases h.2 with h0 | ⟨g, cap, cur, hv, hg, hh, r⟩
  · exact .inl h0
  · have hlt : g < w.heap.size := (Array.getElem?_eq_some_iff.1 hh).1
    exact .inr ⟨g, cap, cur, hv, hg, by rw [hb.block g (by omega)]; exact hh, r⟩

end Go.Proofs.YbulkiiyDoor
