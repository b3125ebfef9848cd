/-
  THE WALKS OF (*Timer).arm AND fire; of the expire function; of HandlerFunc.Fire.
-/
import Derived.Test.YbulkiguPop
import Derived.Deep.RegionWith
namespace Go.Proofs.Ybulkigu
open Go.ChangeShapes Go.WideShapes Go.ChangeAt Go.RowKit
attribute [local go_sem] run_store_float

/-- the engine in block N, the captured variable e in N+1, calls in N+2, at in N+3, the timer in N+4 -/
structure Sys (N : Nat) (sd : Int) (w : World) (now : Nat) (seq : Int) (sl : Value) (dl : Nat) (pend : Bool) (wake : Nat) (calls : Int) (at_ : Nat) : Prop where
  eng : w.heap[N]? = some (.cells #[.float .f64 now, .int .u64 seq, sl, .bool false, .int .u64 sd, .int .u64 0] 51 (0, 0))
  evar : w.heap[N + 1]? = some (.cells #[.pointer (some ⟨N, 0, none⟩)] 47 (0, 0))
  cnt : w.heap[N + 2]? = some (.cells #[.int .i64 calls] 3 (0, 0))
  atv : w.heap[N + 3]? = some (.cells #[.float .f64 at_] 41 (0, 0))
  tim : w.heap[N + 4]? = some (.cells #[.pointer (some ⟨N, 0, none⟩), .func (.func 14) #[] #[.pointer (some ⟨N + 2, 0, none⟩), .pointer (some ⟨N + 1, 0, none⟩), .pointer (some ⟨N + 3, 0, none⟩)], .float .f64 dl, .bool pend, .float .f64 wake, .iface 98 (.func (.func 24) #[.pointer (some ⟨N + 4, 0, none⟩)] #[])] 86 (0, 0))
  size : N + 5 ≤ w.heap.size

theorem Keep.below {N : Nat} {w w' : World} (h : Keep (fun k => k < N + 5 ∧ k ≠ N) w w') : Below N w w' :=
  ⟨h.os, h.tape, h.output, h.size, fun k hk => h.block k ⟨by omega, by omega⟩⟩

theorem Sys.kept {N : Nat} {sd : Int} {w w' : World} {now : Nat} {seq seq' : Int} {sl sl' : Value} {dl : Nat} {pend : Bool} {wake : Nat} {calls : Int} {at_ : Nat}
    (h : Sys N sd w now seq sl dl pend wake calls at_) (hE : w'.heap[N]? = some (.cells #[.float .f64 now, .int .u64 seq', sl', .bool false, .int .u64 sd, .int .u64 0] 51 (0, 0)))
    (hk : Keep (fun k => k < N + 5 ∧ k ≠ N) w w') : Sys N sd w' now seq' sl' dl pend wake calls at_ where
  eng := hE
  evar := (hk.block (N + 1) ⟨by omega, by omega⟩).trans h.evar
  cnt := (hk.block (N + 2) ⟨by omega, by omega⟩).trans h.cnt
  atv := (hk.block (N + 3) ⟨by omega, by omega⟩).trans h.atv
  tim := (hk.block (N + 4) ⟨by omega, by omega⟩).trans h.tim
  size := Nat.le_trans h.size hk.size

theorem Sys.drew {N : Nat} {sd : Int} {w : World} {now : Nat} {seq : Int} {sl : Value} {dl : Nat} {pend : Bool} {wake : Nat} {calls : Int} {at_ : Nat}
    (h : Sys N sd w now seq sl dl pend wake calls at_) : Sys N sd w.drew now seq sl dl pend wake calls at_ := ⟨h.eng, h.evar, h.cnt, h.atv, h.tim, h.size⟩

/-- a store into the timer -/
theorem Sys.setTim {N : Nat} {sd : Int} {w : World} {now : Nat} {seq : Int} {sl : Value} {dl dl' : Nat} {pend pend' : Bool} {wake wake' : Nat} {calls : Int} {at_ : Nat}
    (h : Sys N sd w now seq sl dl pend wake calls at_) (j : Nat) (v : Value)
    (e : (#[.pointer (some ⟨N, 0, none⟩), .func (.func 14) #[] #[.pointer (some ⟨N + 2, 0, none⟩), .pointer (some ⟨N + 1, 0, none⟩), .pointer (some ⟨N + 3, 0, none⟩)], .float .f64 dl, .bool pend, .float .f64 wake, .iface 98 (.func (.func 24) #[.pointer (some ⟨N + 4, 0, none⟩)] #[])] : Array Value).setIfInBounds j v =
      #[.pointer (some ⟨N, 0, none⟩), .func (.func 14) #[] #[.pointer (some ⟨N + 2, 0, none⟩), .pointer (some ⟨N + 1, 0, none⟩), .pointer (some ⟨N + 3, 0, none⟩)], .float .f64 dl', .bool pend', .float .f64 wake', .iface 98 (.func (.func 24) #[.pointer (some ⟨N + 4, 0, none⟩)] #[])]) :
    Sys N sd (w.setCell ⟨N + 4, j, none⟩ v) now seq sl dl' pend' wake' calls at_ where
  eng := by rw [heap_setCell_other _ _ _ _ (by show N ≠ N + 4; omega)]; exact h.eng
  evar := by rw [heap_setCell_other _ _ _ _ (by show N + 1 ≠ N + 4; omega)]; exact h.evar
  cnt := by rw [heap_setCell_other _ _ _ _ (by show N + 2 ≠ N + 4; omega)]; exact h.cnt
  atv := by rw [heap_setCell_other _ _ _ _ (by show N + 3 ≠ N + 4; omega)]; exact h.atv
  tim := by rw [heap_setCell_same _ _ _ _ _ _ h.tim, e]
  size := by simpa using h.size

set_option maxHeartbeats 2000000 in
set_option maxRecDepth 20000 in
theorem arm_any (N : Nat) (sd : Int) (w : World) (now : Nat) (seq : Int) (sl : Value) (dl : Nat) (pend : Bool) (wake : Nat) (calls : Int) (at_ : Nat)
    (hS : Sys N sd w now seq sl dl pend wake calls at_) (hown : w.ownsRow (N + 5) 102 3 sl 0 []) (h0 : 0 ≤ seq) (h1 : seq ≤ 1000) :
    Calls Yba.prog 16 #[.pointer (some ⟨N + 4, 0, none⟩)] w fun e w' => e = .returned (.tuple #[]) ∧
      ∃ sl', Sys N sd w' now (seq + 1) sl' dl true dl calls at_ ∧
        w'.ownsRow (N + 5) 102 3 sl' 1 [.float .f64 dl, .int .u64 seq, .iface 98 (.func (.func 24) #[.pointer (some ⟨N + 4, 0, none⟩)] #[])] ∧ Below N w w' := by
  have c0 : w.cell? ⟨N + 4, 0, none⟩ = some (.pointer (some ⟨N, 0, none⟩)) := by rw [cell_of_row w _ 0 _ _ _ hS.tim]; rfl
  have c2 : w.cell? ⟨N + 4, 2, none⟩ = some (.float .f64 dl) := by rw [cell_of_row w _ 2 _ _ _ hS.tim]; rfl
  have c3 : w.cell? ⟨N + 4, 3, none⟩ = some (.bool pend) := by rw [cell_of_row w _ 3 _ _ _ hS.tim]; rfl
  have c4 : w.cell? ⟨N + 4, 4, none⟩ = some (.float .f64 wake) := by rw [cell_of_row w _ 4 _ _ _ hS.tim]; rfl
  have c5 : w.cell? ⟨N + 4, 5, none⟩ = some (.iface 98 (.func (.func 24) #[.pointer (some ⟨N + 4, 0, none⟩)] #[])) := by rw [cell_of_row w _ 5 _ _ _ hS.tim]; rfl
  have f3 : w.frozen? ⟨N + 4, 3, none⟩ = false := frozen_of_row w _ 3 _ _ hS.tim
  have f4 : w.frozen? ⟨N + 4, 4, none⟩ = false := frozen_of_row w _ 4 _ _ hS.tim
  have hS1 : Sys N sd (w.setCell ⟨N + 4, 3, none⟩ (.bool true)) now seq sl dl true wake calls at_ := hS.setTim 3 _ rfl
  have hS2 : Sys N sd ((w.setCell ⟨N + 4, 3, none⟩ (.bool true)).setCell ⟨N + 4, 4, none⟩ (.float .f64 dl)) now seq sl dl true dl calls at_ := hS1.setTim 4 _ rfl
  have ho2 : ((w.setCell ⟨N + 4, 3, none⟩ (.bool true)).setCell ⟨N + 4, 4, none⟩ (.float .f64 dl)).ownsRow (N + 5) 102 3 sl 0 [] :=
    ownsRow_setCell_below (a := ⟨N + 4, 4, none⟩) (ownsRow_setCell_below (a := ⟨N + 4, 3, none⟩) hown (by show N + 4 < N + 5; omega) _) (by show N + 4 < N + 5; omega) _
  have hB2 : Below N w ((w.setCell ⟨N + 4, 3, none⟩ (.bool true)).setCell ⟨N + 4, 4, none⟩ (.float .f64 dl)) :=
    ((Below.refl _ _).setCell (by show N ≤ N + 4; omega) _).setCell (by show N ≤ N + 4; omega) _
  go_enter Yba.func16, Yba.ntmps16
  go_wp2
  go_region_with (go_at_call 25; refine (at_any N _ now seq sd 0 sl _ false dl hS2.drew.eng (ownsRow_drew ho2) hS2.drew.size h0 h1).mono ?_; rintro e w' ⟨rfl, sl', hE', ho, HK⟩)
  all_goals
    go_end0
    exact ⟨rfl, sl', hS2.drew.kept hE' HK, ho, hB2.drew.trans HK.below⟩

end Go.Proofs.Ybulkigu
