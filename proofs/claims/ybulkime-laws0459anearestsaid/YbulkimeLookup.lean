/-
  THE WALKS OF lookupCall, lookup AND value.
-/
import Derived.Test.YbulkimeScope
import Derived.Laws.ResultCell
import Derived.BigQuiet
import Derived.BigRegion
namespace Go.Proofs.Ybulkime
open Go.RowKit
open Go.ChangeMaps (setBlock)

theorem heap_on {w w' : World} (hb : Below w.heap.size w w') {k : Nat} {o : Obj} (h : w.heap[k]? = some o) : w'.heap[k]? = some o := by
  rw [hb.block k (Array.getElem?_eq_some_iff.1 h).1]
  exact h

theorem Syms.on {w w' : World} {Y : Nat} {vl : Nat → Int} {bd lc : Nat → Bool} (h : Syms w Y vl bd lc) (hb : Below w.heap.size w w') : Syms w' Y vl bd lc := fun k hk => heap_on hb (h k hk)

theorem Index.on {w w' : World} {Y : Nat} {f : Fr} {m : Option Nat} (h : Index w Y f m) (hb : Below w.heap.size w w') : Index w' Y f m := by
  rcases h with h | ⟨bm, M, h1, h2, ⟨es, clock, h3, h4, h5⟩, h6⟩
  · exact .inl h
  · exact .inr ⟨bm, M, h1, h2, ⟨es, clock, heap_on hb h3, h4, h5⟩, h6⟩

theorem NameRow.on {w w' : World} {Y gn n : Nat} {f : Fr} (h : NameRow w Y gn n f) (hb : Below w.heap.size w w') : NameRow w' Y gn n f := by
  obtain ⟨cs, h1, h2⟩ := h
  exact ⟨cs, heap_on hb h1, h2⟩

theorem ValRow.on {w w' : World} {gv n : Nat} {f : Fr} (h : ValRow w gv n f) (hb : Below w.heap.size w w') : ValRow w' gv n f := by
  obtain ⟨cs, h1, h2⟩ := h
  exact ⟨cs, heap_on hb h1, h2⟩

theorem Chain.on {w w' : World} {Y : Nat} (hb : Below w.heap.size w w') : ∀ {fs : List Fr} {b : Nat}, Chain w Y fs b → Chain w' Y fs b
  | [], _, h => heap_on hb h
  | _ :: _, _, ⟨q, ⟨gn, gv, m, h1, h2, h3, h4⟩, h5⟩ => ⟨q, ⟨gn, gv, m, heap_on hb h1, h2.on hb, h3.on hb, h4.on hb⟩, Chain.on hb h5⟩

/-- a Value, as the language's own cells have it: an integer, or none -/
def val3 : Option Int → Value
  | some x => .agg #[.int .u8 2, .int .i64 x, .nilIface]
  | none => .agg #[.int .u8 0, .int .i64 0, .nilIface]

/-- what lookupCall answers -/
def callAns (k : Nat) (vl : Nat → Int) (bd : Nat → Bool) (fs : List Fr) : Option Int × Bool :=
  match find k fs with
  | some x => (some x, true)
  | none => if bd k then (some (vl k), true) else (none, false)

/-- what lookup answers -/
def lookAns (k : Nat) (vl : Nat → Int) (bd lc : Nat → Bool) (fs : List Fr) : Option Int × Bool :=
  if fs = [] ∨ lc k = false then (some (vl k), bd k) else callAns k vl bd fs

theorem below1 (w : World) (o : Obj) : Below w.heap.size w (w.alloc o) := (Below.refl _ _).alloc (Nat.le_refl _) o

set_option maxHeartbeats 2000000 in
set_option maxRecDepth 100000 in
theorem lookupCall_any (w : World) (Y k : Nat) (vl : Nat → Int) (bd lc : Nat → Bool) (hk : k < 4) (hS : Syms w Y vl bd lc) (FS : List Fr) (hn : ∀ f ∈ FS, f.nn ≤ 1000000) (b0 : Nat) (hC : Chain w Y FS b0) :
    Calls Yba.prog 11 #[.pointer (some ⟨b0, 0, none⟩), .pointer (some ⟨Y + k, 0, none⟩)] w fun e w' =>
      e = .returned (.tuple #[val3 (callAns k vl bd FS).1, .bool (callAns k vl bd FS).2]) ∧ Below w.heap.size w w' := by
  have hbw := below1 w (.cells #[.int .u8 0, .int .i64 0, .nilIface] 32)
  have hlt : Y + k < w.heap.size := (Array.getElem?_eq_some_iff.1 (hS k hk)).1
  have v1 : w.cell? ⟨Y + k, 1, none⟩ = some (.int .u8 2) := by rw [cell_of_row w _ 1 _ _ _ (hS k hk)]; rfl
  have v2 : w.cell? ⟨Y + k, 2, none⟩ = some (.int .i64 (vl k)) := by rw [cell_of_row w _ 2 _ _ _ (hS k hk)]; rfl
  have v3 : w.cell? ⟨Y + k, 3, none⟩ = some .nilIface := by rw [cell_of_row w _ 3 _ _ _ (hS k hk)]; rfl
  go_enter Yba.func11, Yba.ntmps11
  go_wp2_with fail
  refine (slot_any _ Y k vl bd lc hk (hS.on hbw) FS hn b0 (Chain.on hbw hC)).mono ?_
  rintro e w' ⟨q, rfl, rfl, hq⟩
  rcases hq with ⟨x, g, o, hf, rfl, a1, a2, a3⟩ | ⟨hf, hb, rfl⟩ | ⟨hf, hb, rfl⟩
  · have HA : Hid (callAns k vl bd FS = (some x, true)) := by
      show _ = _
      simp only [callAns, hf]
    clear hf
    go_wp2
    refine bodyPost_ret (v := .tuple #[.agg #[.int .u8 2, .int .i64 x, .nilIface], .bool true]) (by simp [results, Yba.results11, go_sem]) rfl ?_
    rw [HA.out]
    exact ⟨rfl, (Below.refl _ _).alloc (Nat.le_refl _) _⟩
  · have HA : Hid (callAns k vl bd FS = (some (vl k), true)) := by
      show _ = _
      simp only [callAns, hf, hb, if_true]
    clear hf
    go_wp2
    refine bodyPost_ret (v := .tuple #[.agg #[.int .u8 2, .int .i64 (vl k), .nilIface], .bool true]) (by simp [results, Yba.results11, go_sem]) rfl ?_
    rw [HA.out]
    exact ⟨rfl, (Below.refl _ _).alloc (Nat.le_refl _) _⟩
  · have HA : Hid (callAns k vl bd FS = (none, false)) := by
      show _ = _
      simp only [callAns, hf, hb, Bool.false_eq_true, if_false]
    clear hf
    go_wp2
    refine bodyPost_ret (v := .tuple #[.agg #[.int .u8 0, .int .i64 0, .nilIface], .bool false]) (by simp [results, Yba.results11, go_sem]) rfl ?_
    rw [HA.out]
    exact ⟨rfl, (Below.refl _ _).alloc (Nat.le_refl _) _⟩

theorem Chain.parent {w : World} {Y : Nat} {fs : List Fr} {b : Nat} (h : Chain w Y fs b) : b < w.heap.size ∧ ∃ p, w.cell? ⟨b, 0, none⟩ = some (.pointer p) ∧ (p = none ↔ fs = []) := by
  cases fs with
  | nil =>
    have hb : w.heap[b]? = some (.cells #[.pointer none, .slice none 0 0, .slice none 0 0, .map none, .bool false] 50 (0, 0)) := h
    exact ⟨(Array.getElem?_eq_some_iff.1 hb).1, none, by rw [cell_of_row w _ 0 _ _ _ hb]; rfl, by simp⟩
  | cons f fs =>
    obtain ⟨q, ⟨gn, gv, m, hb, _⟩, _⟩ := h
    exact ⟨(Array.getElem?_eq_some_iff.1 hb).1, some ⟨q, 0, none⟩, by rw [cell_of_row w _ 0 _ _ _ hb]; rfl, by simp⟩

set_option maxHeartbeats 2000000 in
set_option maxRecDepth 100000 in
theorem lookup_any (w : World) (Y k : Nat) (vl : Nat → Int) (bd lc : Nat → Bool) (hk : k < 4) (hS : Syms w Y vl bd lc) (FS : List Fr) (hn : ∀ f ∈ FS, f.nn ≤ 1000000) (b0 : Nat) (hC : Chain w Y FS b0) :
    Calls Yba.prog 7 #[.pointer (some ⟨b0, 0, none⟩), .pointer (some ⟨Y + k, 0, none⟩)] w fun e w' =>
      e = .returned (.tuple #[val3 (lookAns k vl bd lc FS).1, .bool (lookAns k vl bd lc FS).2]) ∧ Below w.heap.size w w' := by
  have hbw := below1 w (.cells #[.int .u8 0, .int .i64 0, .nilIface] 32)
  have hlt : Y + k < w.heap.size := (Array.getElem?_eq_some_iff.1 (hS k hk)).1
  have v1 : w.cell? ⟨Y + k, 1, none⟩ = some (.int .u8 2) := by rw [cell_of_row w _ 1 _ _ _ (hS k hk)]; rfl
  have v2 : w.cell? ⟨Y + k, 2, none⟩ = some (.int .i64 (vl k)) := by rw [cell_of_row w _ 2 _ _ _ (hS k hk)]; rfl
  have v3 : w.cell? ⟨Y + k, 3, none⟩ = some .nilIface := by rw [cell_of_row w _ 3 _ _ _ (hS k hk)]; rfl
  have v4 : w.cell? ⟨Y + k, 4, none⟩ = some (.bool (bd k)) := by rw [cell_of_row w _ 4 _ _ _ (hS k hk)]; rfl
  have v5 : w.cell? ⟨Y + k, 5, none⟩ = some (.bool (lc k)) := by rw [cell_of_row w _ 5 _ _ _ (hS k hk)]; rfl
  obtain ⟨hbl, p, hp, hpe⟩ := hC.parent
  cases p with
  | none =>
    have HA : Hid (lookAns k vl bd lc FS = (some (vl k), bd k)) := by
      show _ = _
      unfold lookAns
      rw [if_pos (.inl (hpe.1 rfl))]
    clear hpe
    go_enter Yba.func7, Yba.ntmps7
    go_wp2
    go_region
    all_goals
      go_wp2
      refine bodyPost_ret (v := .tuple #[.agg #[.int .u8 2, .int .i64 (vl k), .nilIface], .bool (bd k)]) (by simp [results, Yba.results7, go_sem]) rfl ?_
      rw [HA.out]
      exact ⟨rfl, ((Below.refl _ _).alloc (Nat.le_refl _) _).drew⟩
  | some q =>
    by_cases hl : lc k = false
    · have HA : Hid (lookAns k vl bd lc FS = (some (vl k), bd k)) := by
        show _ = _
        unfold lookAns
        rw [if_pos (.inr hl)]
      clear hpe
      go_enter Yba.func7, Yba.ntmps7
      go_wp2
      go_region
      all_goals
        go_wp2
        refine bodyPost_ret (v := .tuple #[.agg #[.int .u8 2, .int .i64 (vl k), .nilIface], .bool (bd k)]) (by simp [results, Yba.results7, go_sem]) rfl ?_
        rw [HA.out]
        exact ⟨rfl, ((Below.refl _ _).alloc (Nat.le_refl _) _).drew⟩
    · have hlt2 : lc k = true := by simpa using hl
      have HA : Hid (lookAns k vl bd lc FS = callAns k vl bd FS) := by
        show _ = _
        unfold lookAns
        rw [if_neg]
        rintro (h | h)
        · exact absurd (hpe.2 h) (by simp)
        · exact hl h
      clear hpe hl
      go_enter Yba.func7, Yba.ntmps7
      go_wp2_with fail
      refine (lookupCall_any _ Y k vl bd lc hk (hS.on hbw) FS hn b0 (Chain.on hbw hC)).mono ?_
      rintro e w1 ⟨rfl, hb1⟩
      have r0 : w1.heap[w.heap.size]? = some (.cells #[.int .u8 0, .int .i64 0, .nilIface] 32 (0, 0)) := heap_on hb1 (MapKept.heap_alloc w _).1
      have r1 : w1.cell? ⟨w.heap.size, 0, none⟩ = some (.int .u8 0) := by rw [cell_of_row w1 _ 0 _ _ _ r0]; rfl
      have r2 : w1.cell? ⟨w.heap.size, 1, none⟩ = some (.int .i64 0) := by rw [cell_of_row w1 _ 1 _ _ _ r0]; rfl
      have r3 : w1.cell? ⟨w.heap.size, 2, none⟩ = some .nilIface := by rw [cell_of_row w1 _ 2 _ _ _ r0]; rfl
      have f1 : w1.frozen? ⟨w.heap.size, 0, none⟩ = false := frozen_of_row w1 _ 0 _ _ r0
      have f2 : w1.frozen? ⟨w.heap.size, 1, none⟩ = false := frozen_of_row w1 _ 1 _ _ r0
      have f3 : w1.frozen? ⟨w.heap.size, 2, none⟩ = false := frozen_of_row w1 _ 2 _ _ r0
      have hB : Below w.heap.size w w1 := hbw.trans (hb1.mono (by simp))
      have HB : ∀ x1 x2 x3 : Value, Below w.heap.size w (((w1.setCell ⟨w.heap.size, 0, none⟩ x1).setCell ⟨w.heap.size, 1, none⟩ x2).setCell ⟨w.heap.size, 2, none⟩ x3) := fun x1 x2 x3 =>
        ((hB.setCell (Nat.le_refl _) x1).setCell (Nat.le_refl _) x2).setCell (Nat.le_refl _) x3
      clear r0 hB hb1 hbw
      obtain ⟨o, ok, hca⟩ : ∃ o ok, callAns k vl bd FS = (o, ok) := ⟨_, _, rfl⟩
      rw [hca]
      have HA2 : Hid (lookAns k vl bd lc FS = (o, ok)) := HA.out.trans hca
      clear hca HA
      cases o with
      | some x =>
        simp only [val3]
        go_wp2
        refine bodyPost_ret (v := .tuple #[.agg #[.int .u8 2, .int .i64 x, .nilIface], .bool ok]) (by simp [results, Yba.results7, go_sem, r1, r2, r3]) rfl ?_
        rw [HA2.out]
        exact ⟨rfl, HB _ _ _⟩
      | none =>
        simp only [val3]
        go_wp2
        refine bodyPost_ret (v := .tuple #[.agg #[.int .u8 0, .int .i64 0, .nilIface], .bool ok]) (by simp [results, Yba.results7, go_sem, r1, r2, r3]) rfl ?_
        rw [HA2.out]
        exact ⟨rfl, HB _ _ _⟩

set_option maxHeartbeats 2000000 in
set_option maxRecDepth 100000 in
theorem value_any (w : World) (Y k : Nat) (vl : Nat → Int) (bd lc : Nat → Bool) (hk : k < 4) (hS : Syms w Y vl bd lc) (FS : List Fr) (hn : ∀ f ∈ FS, f.nn ≤ 1000000) (b0 : Nat) (hC : Chain w Y FS b0) :
    Calls Yba.prog 10 #[.pointer (some ⟨b0, 0, none⟩), .pointer (some ⟨Y + k, 0, none⟩)] w fun e w' =>
      e = .returned (val3 (lookAns k vl bd lc FS).1) ∧ Below w.heap.size w w' := by
  have hbw := below1 w (.cells #[.int .u8 0, .int .i64 0, .nilIface] 32)
  have hlt : Y + k < w.heap.size := (Array.getElem?_eq_some_iff.1 (hS k hk)).1
  have v1 : w.cell? ⟨Y + k, 1, none⟩ = some (.int .u8 2) := by rw [cell_of_row w _ 1 _ _ _ (hS k hk)]; rfl
  have v2 : w.cell? ⟨Y + k, 2, none⟩ = some (.int .i64 (vl k)) := by rw [cell_of_row w _ 2 _ _ _ (hS k hk)]; rfl
  have v3 : w.cell? ⟨Y + k, 3, none⟩ = some .nilIface := by rw [cell_of_row w _ 3 _ _ _ (hS k hk)]; rfl
  have v5 : w.cell? ⟨Y + k, 5, none⟩ = some (.bool (lc k)) := by rw [cell_of_row w _ 5 _ _ _ (hS k hk)]; rfl
  obtain ⟨hbl, p, hp, hpe⟩ := hC.parent
  cases p with
  | none =>
    have HA : Hid (lookAns k vl bd lc FS = (some (vl k), bd k)) := by
      show _ = _
      unfold lookAns
      rw [if_pos (.inl (hpe.1 rfl))]
    clear hpe
    go_enter Yba.func10, Yba.ntmps10
    go_wp2
    refine bodyPost_ret (v := .agg #[.int .u8 2, .int .i64 (vl k), .nilIface]) (by simp [results, Yba.results10, go_sem]) rfl ?_
    rw [HA.out]
    exact ⟨rfl, (Below.refl _ _).alloc (Nat.le_refl _) _⟩
  | some q =>
    by_cases hl : lc k = false
    · have HA : Hid (lookAns k vl bd lc FS = (some (vl k), bd k)) := by
        show _ = _
        unfold lookAns
        rw [if_pos (.inr hl)]
      clear hpe
      go_enter Yba.func10, Yba.ntmps10
      go_wp2
      refine bodyPost_ret (v := .agg #[.int .u8 2, .int .i64 (vl k), .nilIface]) (by simp [results, Yba.results10, go_sem]) rfl ?_
      rw [HA.out]
      exact ⟨rfl, (Below.refl _ _).alloc (Nat.le_refl _) _⟩
    · have hlt2 : lc k = true := by simpa using hl
      have HA : Hid (lookAns k vl bd lc FS = callAns k vl bd FS) := by
        show _ = _
        unfold lookAns
        rw [if_neg]
        rintro (h | h)
        · exact absurd (hpe.2 h) (by simp)
        · exact hl h
      clear hpe hl
      go_enter Yba.func10, Yba.ntmps10
      go_wp2_with fail
      refine (lookupCall_any _ Y k vl bd lc hk (hS.on hbw) FS hn b0 (Chain.on hbw hC)).mono ?_
      rintro e w1 ⟨rfl, hb1⟩
      have r0 : w1.heap[w.heap.size]? = some (.cells #[.int .u8 0, .int .i64 0, .nilIface] 32 (0, 0)) := heap_on hb1 (MapKept.heap_alloc w _).1
      have hsz : w.heap.size < w1.heap.size := (Array.getElem?_eq_some_iff.1 r0).1
      have r1 : w1.cell? ⟨w.heap.size, 0, none⟩ = some (.int .u8 0) := by rw [cell_of_row w1 _ 0 _ _ _ r0]; rfl
      have r2 : w1.cell? ⟨w.heap.size, 1, none⟩ = some (.int .i64 0) := by rw [cell_of_row w1 _ 1 _ _ _ r0]; rfl
      have r3 : w1.cell? ⟨w.heap.size, 2, none⟩ = some .nilIface := by rw [cell_of_row w1 _ 2 _ _ _ r0]; rfl
      have f1 : w1.frozen? ⟨w.heap.size, 0, none⟩ = false := frozen_of_row w1 _ 0 _ _ r0
      have f2 : w1.frozen? ⟨w.heap.size, 1, none⟩ = false := frozen_of_row w1 _ 1 _ _ r0
      have f3 : w1.frozen? ⟨w.heap.size, 2, none⟩ = false := frozen_of_row w1 _ 2 _ _ r0
      have hB : Below w.heap.size w w1 := hbw.trans (hb1.mono (by simp))
      have HB : ∀ (x1 x2 x3 : Value) (o : Obj), Below w.heap.size w ((((w1.setCell ⟨w.heap.size, 0, none⟩ x1).setCell ⟨w.heap.size, 1, none⟩ x2).setCell ⟨w.heap.size, 2, none⟩ x3).alloc o) := fun x1 x2 x3 o =>
        (((hB.setCell (Nat.le_refl _) x1).setCell (Nat.le_refl _) x2).setCell (Nat.le_refl _) x3).alloc (by simp; omega) o
      clear r0 hB hb1 hbw
      obtain ⟨o, ok, hca⟩ : ∃ o ok, callAns k vl bd FS = (o, ok) := ⟨_, _, rfl⟩
      rw [hca]
      have HA2 : Hid (lookAns k vl bd lc FS = (o, ok)) := HA.out.trans hca
      clear hca HA
      cases o with
      | some x =>
        simp only [val3]
        go_wp2
        refine bodyPost_ret (v := .agg #[.int .u8 2, .int .i64 x, .nilIface]) (by simp [results, Yba.results10, go_sem, hsz, r1, r2, r3]) rfl ?_
        rw [HA2.out]
        exact ⟨rfl, HB _ _ _ _⟩
      | none =>
        simp only [val3]
        go_wp2
        refine bodyPost_ret (v := .agg #[.int .u8 0, .int .i64 0, .nilIface]) (by simp [results, Yba.results10, go_sem, hsz, r1, r2, r3]) rfl ?_
        rw [HA2.out]
        exact ⟨rfl, HB _ _ _ _⟩

end Go.Proofs.Ybulkime
