/-
  THE WALK OF zzs0453adec: the decimal numeral by hand.
-/
import Derived.Test.YbulkiiyDoorEsc
namespace Go.Proofs.YbulkiiyDoor
open Go.RowKit Go.Lib

def dig (u : Nat) : UInt8 := UInt8.ofNat (48 + u % 10)

theorem dig_num (u : Nat) : ((dig u).toNat : Int) = 48 + (u : Int) % 10 := by
  have h : (dig u).toNat = 48 + u % 10 := by
    unfold dig
    rw [UInt8.toNat_ofNat']
    omega
  rw [h]
  omega

theorem dec_step {u u0 : Nat} {D : List UInt8} (h : Lib.decDigits u0 = Lib.decDigits u ++ D.reverse) (h1 : ¬ u < 10) : Lib.decDigits u0 = Lib.decDigits (u / 10) ++ (D ++ [dig u]).reverse := by
  rw [h, Lib.decDigits, dif_neg h1]
  simp [dig]

theorem dec_last {u u0 : Nat} {D : List UInt8} (h : Lib.decDigits u0 = Lib.decDigits u ++ D.reverse) (h1 : u < 10) : Lib.decDigits u0 = (D ++ [dig u]).reverse := by
  rw [h, Lib.decDigits_one h1]
  have : u % 10 = u := Nat.mod_eq_of_lt h1
  simp [dig, this]

theorem pow_step {u n : Nat} (hn : n ≤ 19) (h : u < 10 ^ (20 - n)) : u / 10 < 10 ^ (20 - (n + 1)) := by
  have e : 10 ^ (20 - n) = 10 * 10 ^ (20 - (n + 1)) := by
    rw [show 20 - n = (20 - (n + 1)) + 1 from by omega, Nat.pow_succ, Nat.mul_comm]
  rw [e] at h
  omega

theorem pow_room {u n : Nat} (h : u < 10 ^ (20 - n)) (h1 : 1 ≤ u) : n ≤ 19 := by
  rcases Nat.lt_or_ge n 20 with h2 | h2
  · omega
  · rw [show 20 - n = 0 from by omega] at h
    simp at h
    omega

theorem Stp.setNew {B : Nat} {w wr : World} (h : Stp B w wr) {N : Nat} (h1 : w.heap.size ≤ N) (h2 : B ≤ N) (j : Nat) (v : Value) : Stp B w (wr.setCell ⟨N, j, none⟩ v) := by
  refine ⟨h.below.setCell (by exact h2) v, ?_⟩
  intro k o hk hb ho
  have hlt : k < w.heap.size := (Array.getElem?_eq_some_iff.1 hk).1
  rw [Below.heap_setCell _ _ _ _ (by show k ≠ N; omega)]
  exact h.kept k o hk hb ho

theorem Own.setOther {w : World} {B : Nat} {v : Value} {T : List UInt8} (h : Own w B v T) {N : Nat} {cs : Array Value} (hN : w.heap[N]? = some (.cells cs 31 (0, 0))) (j : Nat) (u : Value) : Own (w.setCell ⟨N, j, none⟩ u) B v T := by
  refine ⟨h.1, ?_⟩
  rcases h.2 with h0 | ⟨g, cap, cur, hv, hb, hh, r⟩
  · exact .inl h0
  · refine .inr ⟨g, cap, cur, hv, hb, ?_, r⟩
    have : g ≠ N := by
      intro e
      rw [e, hN] at hh
      cases hh
    rw [Below.heap_setCell _ _ _ _ this]
    exact hh

theorem Stp.box31 {B : Nat} {w w' : World} (h : Stp B w w') {k : Nat} {cs : Array Value} (hb : w.heap[k]? = some (.cells cs 31 (0, 0))) : w'.heap[k]? = some (.cells cs 31 (0, 0)) :=
  h.kept k _ hb (by simp) (by intro c fz e; cases e)

/-- the digits D lie in the array, the last first -/
def Digs (w : World) (N : Nat) (D : List UInt8) : Prop := ∃ cs : Array Value, w.heap[N]? = some (.cells cs 31 (0, 0)) ∧ cs.size = 20 ∧ ∀ j, (h : j < D.length) → cs[j]? = some (.int .u8 (D[j].toNat : Int))

theorem Digs.snoc {w : World} {N : Nat} {D : List UInt8} (h : Digs w N D) (hl : D.length ≤ 19) (c : UInt8) : Digs (w.setCell ⟨N, D.length, none⟩ (.int .u8 (c.toNat : Int))) N (D ++ [c]) := by
  obtain ⟨cs, h1, h2, h3⟩ := h
  refine ⟨cs.setIfInBounds D.length (.int .u8 (c.toNat : Int)), heap_setCell_same w N D.length cs 31 _ h1, by simpa using h2, fun j hj => ?_⟩
  rw [Array.getElem?_setIfInBounds]
  by_cases e : D.length = j
  · subst e
    rw [if_pos rfl, if_pos (by omega)]
    simp
  · rw [if_neg e]
    have hj' : j < D.length := by
      simp only [List.length_append, List.length_cons, List.length_nil] at hj
      omega
    rw [h3 j hj', List.getElem_append_left hj']

theorem Digs.cell {w : World} {N : Nat} {D : List UInt8} (h : Digs w N D) (j : Nat) (hj : j < D.length) : w.cell? ⟨N, j, none⟩ = some (.int .u8 (D[j].toNat : Int)) := by
  obtain ⟨cs, h1, h2, h3⟩ := h
  rw [cell_of_row w N j cs 31 (0, 0) h1]
  exact h3 j hj

theorem Digs.some {w : World} {N : Nat} {D : List UInt8} (h : Digs w N D) (j : Nat) (hj : j < 20) : ∃ v, w.cell? ⟨N, j, none⟩ = some v := by
  obtain ⟨cs, h1, h2, h3⟩ := h
  rw [cell_of_row w N j cs 31 (0, 0) h1]
  exact ⟨cs[j], by simp [h2, hj]⟩

theorem Digs.frozen {w : World} {N : Nat} {D : List UInt8} (h : Digs w N D) (j : Nat) : w.frozen? ⟨N, j, none⟩ = false := by
  obtain ⟨cs, h1, h2, h3⟩ := h
  exact frozen_of_row w N j cs 31 h1

theorem Digs.on {B : Nat} {w w' : World} {N : Nat} {D : List UInt8} (h : Digs w N D) (s : Stp B w w') : Digs w' N D := by
  obtain ⟨cs, h1, h2, h3⟩ := h
  exact ⟨cs, s.box31 h1, h2, h3⟩

theorem rev_snoc (D : List UInt8) (j : Nat) (h : j < D.length) : (D.drop j).reverse = (D.drop (j + 1)).reverse ++ [D[j]] := by
  rw [List.drop_eq_getElem_cons h, List.reverse_cons]

end Go.Proofs.YbulkiiyDoor
