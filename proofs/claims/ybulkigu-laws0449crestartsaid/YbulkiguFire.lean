/-
  THE WALKS OF (*Timer).fire: it waits (the deadline has moved on) or it is due; of HandlerFunc.Fire over it.
-/
import Derived.Test.YbulkiguTimer
import Derived.WalkSmall
namespace Go.Proofs.Ybulkigu
open Go.ChangeShapes Go.WideShapes Go.ChangeAt Go.RowKit
attribute [local go_sem] run_store_float

theorem Sys.drewN {N : Nat} {sd : Int} {w : World} {now : Nat} {seq : Int} {sl : Value} {dl : Nat} {pend : Bool} {wake : Nat} {calls : Int} {at_ : Nat}
    (h : Sys N sd w now seq sl dl pend wake calls at_) (n : Nat) : Sys N sd (w.drewN n) now seq sl dl pend wake calls at_ := ⟨h.eng, h.evar, h.cnt, h.atv, h.tim, h.size⟩

theorem ownsRow_drewN {w : World} {base size n : Nat} {e : TypeId} {v : Value} {xs : List Value} (h : w.ownsRow base e size v n xs) (m : Nat) : (w.drewN m).ownsRow base e size v n xs := h

theorem Sys.setCnt {N : Nat} {sd : Int} {w : World} {now : Nat} {seq : Int} {sl : Value} {dl : Nat} {pend : Bool} {wake : Nat} {calls : Int} {at_ : Nat}
    (h : Sys N sd w now seq sl dl pend wake calls at_) (c : Int) : Sys N sd (w.setCell ⟨N + 2, 0, none⟩ (.int .i64 c)) now seq sl dl pend wake c at_ where
  eng := by rw [heap_setCell_other _ _ _ _ (by show N ≠ N + 2; omega)]; exact h.eng
  evar := by rw [heap_setCell_other _ _ _ _ (by show N + 1 ≠ N + 2; omega)]; exact h.evar
  cnt := by rw [heap_setCell_same _ _ _ _ _ _ h.cnt]; rfl
  atv := by rw [heap_setCell_other _ _ _ _ (by show N + 3 ≠ N + 2; omega)]; exact h.atv
  tim := by rw [heap_setCell_other _ _ _ _ (by show N + 4 ≠ N + 2; omega)]; exact h.tim
  size := by simpa using h.size

theorem Sys.setAt {N : Nat} {sd : Int} {w : World} {now : Nat} {seq : Int} {sl : Value} {dl : Nat} {pend : Bool} {wake : Nat} {calls : Int} {at_ : Nat}
    (h : Sys N sd w now seq sl dl pend wake calls at_) (c : Nat) : Sys N sd (w.setCell ⟨N + 3, 0, none⟩ (.float .f64 c)) now seq sl dl pend wake calls c where
  eng := by rw [heap_setCell_other _ _ _ _ (by show N ≠ N + 3; omega)]; exact h.eng
  evar := by rw [heap_setCell_other _ _ _ _ (by show N + 1 ≠ N + 3; omega)]; exact h.evar
  cnt := by rw [heap_setCell_other _ _ _ _ (by show N + 2 ≠ N + 3; omega)]; exact h.cnt
  atv := by rw [heap_setCell_same _ _ _ _ _ _ h.atv]; rfl
  tim := by rw [heap_setCell_other _ _ _ _ (by show N + 4 ≠ N + 3; omega)]; exact h.tim
  size := by simpa using h.size

theorem Sys.setNow {N : Nat} {sd : Int} {w : World} {now : Nat} {seq : Int} {sl : Value} {dl : Nat} {pend : Bool} {wake : Nat} {calls : Int} {at_ : Nat}
    (h : Sys N sd w now seq sl dl pend wake calls at_) (c : Nat) : Sys N sd (w.setCell ⟨N, 0, none⟩ (.float .f64 c)) c seq sl dl pend wake calls at_ where
  eng := by rw [heap_setCell_same _ _ _ _ _ _ h.eng]; rfl
  evar := by rw [heap_setCell_other _ _ _ _ (by show N + 1 ≠ N; omega)]; exact h.evar
  cnt := by rw [heap_setCell_other _ _ _ _ (by show N + 2 ≠ N; omega)]; exact h.cnt
  atv := by rw [heap_setCell_other _ _ _ _ (by show N + 3 ≠ N; omega)]; exact h.atv
  tim := by rw [heap_setCell_other _ _ _ _ (by show N + 4 ≠ N; omega)]; exact h.tim
  size := by simpa using h.size

theorem Sys.alloc {N : Nat} {sd : Int} {w : World} {now : Nat} {seq : Int} {sl : Value} {dl : Nat} {pend : Bool} {wake : Nat} {calls : Int} {at_ : Nat}
    (h : Sys N sd w now seq sl dl pend wake calls at_) (o : Obj) : Sys N sd (w.alloc o) now seq sl dl pend wake calls at_ := by
  have hs := h.size
  exact ⟨by rw [Below.heap_alloc _ _ _ (by omega)]; exact h.eng, by rw [Below.heap_alloc _ _ _ (by omega)]; exact h.evar, by rw [Below.heap_alloc _ _ _ (by omega)]; exact h.cnt,
    by rw [Below.heap_alloc _ _ _ (by omega)]; exact h.atv, by rw [Below.heap_alloc _ _ _ (by omega)]; exact h.tim, by simp; omega⟩

set_option maxHeartbeats 2000000 in
set_option maxRecDepth 20000 in
theorem fire_wait (N : Nat) (sd : Int) (w : World) (now : Nat) (seq : Int) (sl : Value) (dl : Nat) (calls : Int) (at_ : Nat)
    (hS : Sys N sd w now seq sl dl true now calls at_) (hown : w.ownsRow (N + 5) 102 3 sl 0 []) (h0 : 0 ≤ seq) (h1 : seq ≤ 1000)
    (he : FloatKind.f64.format.order now now = some .eq) (hl : FloatKind.f64.format.order now dl = some .lt) :
    Calls Yba.prog 24 #[.pointer (some ⟨N + 4, 0, none⟩)] w fun e w' => e = .returned (.tuple #[]) ∧
      ∃ sl', Sys N sd w' now (seq + 1) sl' dl true dl calls at_ ∧
        w'.ownsRow (N + 5) 102 3 sl' 1 [.float .f64 dl, .int .u64 seq, .iface 98 (.func (.func 24) #[.pointer (some ⟨N + 4, 0, none⟩)] #[])] ∧ Below N w w' := by
  have n0 : w.cell? ⟨N, 0, none⟩ = some (.float .f64 now) := by rw [cell_of_row w _ 0 _ _ _ hS.eng]; rfl
  have c0 : w.cell? ⟨N + 4, 0, none⟩ = some (.pointer (some ⟨N, 0, none⟩)) := by rw [cell_of_row w _ 0 _ _ _ hS.tim]; rfl
  have c2 : w.cell? ⟨N + 4, 2, none⟩ = some (.float .f64 dl) := by rw [cell_of_row w _ 2 _ _ _ hS.tim]; rfl
  have c3 : w.cell? ⟨N + 4, 3, none⟩ = some (.bool true) := by rw [cell_of_row w _ 3 _ _ _ hS.tim]; rfl
  have c4 : w.cell? ⟨N + 4, 4, none⟩ = some (.float .f64 now) := by rw [cell_of_row w _ 4 _ _ _ hS.tim]; rfl
  have f3 : w.frozen? ⟨N + 4, 3, none⟩ = false := frozen_of_row w _ 3 _ _ hS.tim
  go_enter Yba.func24, Yba.ntmps24
  go_wp2
  go_quiet (fail)
  go_wp2
  go_quiet (fail)
  go_wp2_with fail
  refine (arm_any N sd _ now seq sl dl false now calls at_ (((hS.drewN _).setTim 3 _ rfl).drewN _) (ownsRow_drewN (ownsRow_setCell_below (a := ⟨N + 4, 3, none⟩) (ownsRow_drewN hown _) (by show N + 4 < N + 5; omega) _) _) h0 h1).mono ?_
  rintro e w' ⟨rfl, sl', hS', ho', hB⟩
  go_wp2
  refine bodyPost_ret (v := .tuple #[]) (by simp [results, Yba.results24, go_sem]) rfl ?_
  exact ⟨rfl, sl', hS', ho', (below_drewN (((below_drewN (Below.refl _ _) _)).setCell (by show N ≤ N + 4; omega) _) _).trans hB⟩

set_option maxHeartbeats 2000000 in
set_option maxRecDepth 20000 in
theorem fire_due (N : Nat) (sd : Int) (w : World) (now : Nat) (seq : Int) (sl : Value) (dl : Nat) (at_ : Nat)
    (hS : Sys N sd w now seq sl dl true now 0 at_) (hown : w.ownsRow (N + 5) 102 3 sl 0 [])
    (he : FloatKind.f64.format.order now now = some .eq) (hl : FloatKind.f64.format.order now dl = some .eq) :
    Calls Yba.prog 24 #[.pointer (some ⟨N + 4, 0, none⟩)] w fun e w' => e = .returned (.tuple #[]) ∧
      Sys N sd w' now seq sl dl false now 1 now ∧ w'.ownsRow (N + 5) 102 3 sl 0 [] ∧ Below N w w' := by
  have n0 : w.cell? ⟨N, 0, none⟩ = some (.float .f64 now) := by rw [cell_of_row w _ 0 _ _ _ hS.eng]; rfl
  have v0 : w.cell? ⟨N + 1, 0, none⟩ = some (.pointer (some ⟨N, 0, none⟩)) := by rw [cell_of_row w _ 0 _ _ _ hS.evar]; rfl
  have k0 : w.cell? ⟨N + 2, 0, none⟩ = some (.int .i64 0) := by rw [cell_of_row w _ 0 _ _ _ hS.cnt]; rfl
  have a0 : w.cell? ⟨N + 3, 0, none⟩ = some (.float .f64 at_) := by rw [cell_of_row w _ 0 _ _ _ hS.atv]; rfl
  have fk : w.frozen? ⟨N + 2, 0, none⟩ = false := frozen_of_row w _ 0 _ _ hS.cnt
  have fa : w.frozen? ⟨N + 3, 0, none⟩ = false := frozen_of_row w _ 0 _ _ hS.atv
  have c0 : w.cell? ⟨N + 4, 0, none⟩ = some (.pointer (some ⟨N, 0, none⟩)) := by rw [cell_of_row w _ 0 _ _ _ hS.tim]; rfl
  have c1 : w.cell? ⟨N + 4, 1, none⟩ = some (.func (.func 14) #[] #[.pointer (some ⟨N + 2, 0, none⟩), .pointer (some ⟨N + 1, 0, none⟩), .pointer (some ⟨N + 3, 0, none⟩)]) := by rw [cell_of_row w _ 1 _ _ _ hS.tim]; rfl
  have c2 : w.cell? ⟨N + 4, 2, none⟩ = some (.float .f64 dl) := by rw [cell_of_row w _ 2 _ _ _ hS.tim]; rfl
  have c3 : w.cell? ⟨N + 4, 3, none⟩ = some (.bool true) := by rw [cell_of_row w _ 3 _ _ _ hS.tim]; rfl
  have c4 : w.cell? ⟨N + 4, 4, none⟩ = some (.float .f64 now) := by rw [cell_of_row w _ 4 _ _ _ hS.tim]; rfl
  have f3 : w.frozen? ⟨N + 4, 3, none⟩ = false := frozen_of_row w _ 3 _ _ hS.tim
  go_enter Yba.func24, Yba.ntmps24
  go_wp2
  go_quiet (fail)
  go_wp2
  go_quiet (fail)
  go_wp2
  go_end0
  go_wp2
  go_end0
  exact ⟨rfl, ((((hS.drewN _).setTim 3 _ rfl).drewN _).setCnt 1).setAt now,
    ownsRow_setCell_below (a := ⟨N + 3, 0, none⟩) (ownsRow_setCell_below (a := ⟨N + 2, 0, none⟩) (ownsRow_drewN (ownsRow_setCell_below (a := ⟨N + 4, 3, none⟩) (ownsRow_drewN hown _) (by show N + 4 < N + 5; omega) _) _) (by show N + 2 < N + 5; omega) _) (by show N + 3 < N + 5; omega) _,
    ((below_drewN (((below_drewN (Below.refl _ _) _)).setCell (by show N ≤ N + 4; omega) _) _).setCell (by show N ≤ N + 2; omega) _).setCell (by show N ≤ N + 3; omega) _⟩

end Go.Proofs.Ybulkigu
