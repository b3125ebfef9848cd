/-
  THE WALKS OF (*Engine).at AND pop.
-/
import Derived.Test.YbulkiguQueue
import Derived.Laws.ResultCell
namespace Go.Proofs.Ybulkigu
open Go.ChangeShapes Go.WideShapes Go.ChangeAt Go.RowKit

theorem run_store_float (P : Program) (w : World) (a : Addr) (m : Mode) (k : FloatKind) (b : Nat) : (store a (.float k b) m).run P w = stored P w a (.float k b) m := run_store P w a _ m rfl
attribute [local go_sem] run_store_float

set_option maxHeartbeats 2000000 in
set_option maxRecDepth 20000 in
theorem at_any (N : Nat) (w : World) (now : Nat) (seq sd str : Int) (sl hv : Value) (st : Bool) (t : Nat)
    (hE : w.heap[N]? = some (.cells #[.float .f64 now, .int .u64 seq, sl, .bool st, .int .u64 sd, .int .u64 str] 51 (0, 0)))
    (hown : w.ownsRow (N + 5) 102 3 sl 0 []) (hN : N + 5 ≤ w.heap.size) (h0 : 0 ≤ seq) (h1 : seq ≤ 1000) :
    Calls Yba.prog 25 #[.pointer (some ⟨N, 0, none⟩), .float .f64 t, .iface 98 hv] w fun e w' => e = .returned (.tuple #[]) ∧
      ∃ sl', w'.heap[N]? = some (.cells #[.float .f64 now, .int .u64 (seq + 1), sl', .bool st, .int .u64 sd, .int .u64 str] 51 (0, 0)) ∧
        w'.ownsRow (N + 5) 102 3 sl' 1 [.float .f64 t, .int .u64 seq, .iface 98 hv] ∧ Keep (fun k => k < N + 5 ∧ k ≠ N) w w' := by
  have c1 : w.cell? ⟨N, 1, none⟩ = some (.int .u64 seq) := by rw [cell_of_row w N 1 _ _ _ hE]; rfl
  go_enter Yba.func25, Yba.ntmps25
  go_wp2_with fail
  refine (push_any N w now seq sd str sl hv st t seq hE hown hN).mono ?_
  rintro e w' ⟨rfl, sl', hE', ho, HK⟩
  have d1 : w'.cell? ⟨N, 1, none⟩ = some (.int .u64 seq) := by rw [cell_of_row w' N 1 _ _ _ hE']; rfl
  have e1 : w'.frozen? ⟨N, 1, none⟩ = false := frozen_of_row w' N 1 _ _ hE'
  go_wp2
  go_end0
  refine ⟨rfl, _, heap_setCell_same w' N 1 _ _ _ hE', ?_, ?_⟩
  · exact ownsRow_setCell_below ho (by show N < N + 5; omega) _
  · exact HK.setCell (by simp) _

theorem ownsRow_emptied {w : World} {base size n cap g : Nat} {e : TypeId} {xs : List Value} (h : w.ownsRow base e size (.slice (some ⟨g, 0, none⟩) n cap) n xs) :
    w.ownsRow base e size (.slice (some ⟨g, 0, none⟩) 0 cap) 0 [] := by
  rcases h.2 with ⟨h', _⟩ | ⟨g', cap', cur, h', hb, hg, hnc, hcm, hcs, _⟩
  · simp at h'
  · simp only [Value.slice.injEq, Option.some.injEq, Addr.mk.injEq, and_true, true_and] at h'
    obtain ⟨rfl, rfl⟩ := h'
    exact ⟨by simp, .inr ⟨g, cap, cur, rfl, hb, hg, Nat.zero_le _, hcm, hcs, by simp⟩⟩

theorem ownsRow_drew {w : World} {base size n : Nat} {e : TypeId} {v : Value} {xs : List Value} (h : w.ownsRow base e size v n xs) : w.drew.ownsRow base e size v n xs := h

theorem heap_two {w : World} {o1 o2 : Obj} {k : Nat} {x : Obj} (h : w.heap[k]? = some x) : ((w.alloc o1).alloc o2).drew.heap[k]? = some x := by
  have hk : k < w.heap.size := (Array.getElem?_eq_some_iff.1 h).1
  show ((w.alloc o1).alloc o2).heap[k]? = some x
  rw [Below.heap_alloc _ _ _ (by simp; omega), Below.heap_alloc _ _ _ hk]
  exact h

set_option maxHeartbeats 2000000 in
set_option maxRecDepth 20000 in
theorem pop_any (N : Nat) (w : World) (now : Nat) (seq sd str : Int) (sl hv : Value) (st : Bool) (t : Nat) (s : Int)
    (hE : w.heap[N]? = some (.cells #[.float .f64 now, .int .u64 seq, sl, .bool st, .int .u64 sd, .int .u64 str] 51 (0, 0)))
    (hown : w.ownsRow (N + 5) 102 3 sl 1 [.float .f64 t, .int .u64 s, .iface 98 hv]) (hN : N + 5 ≤ w.heap.size) :
    Calls Yba.prog 27 #[.pointer (some ⟨N, 0, none⟩)] w fun e w' => e = .returned (.agg #[.float .f64 t, .int .u64 s, .iface 98 hv]) ∧
      ∃ sl', w'.heap[N]? = some (.cells #[.float .f64 now, .int .u64 seq, sl', .bool st, .int .u64 sd, .int .u64 str] 51 (0, 0)) ∧
        w'.ownsRow (N + 5) 102 3 sl' 0 [] ∧ Keep (fun k => k < N + 5 ∧ k ≠ N) w w' := by
  obtain ⟨g, cap, rfl⟩ := Joins.ownsRow_form hown (by omega)
  have hgl : N + 5 ≤ g ∧ g < w.heap.size := hown.lt g rfl
  have hlt : N < w.heap.size := by omega
  have hgN : g ≠ N := by omega
  have hNg : N ≠ g := by omega
  have hgs : g < w.heap.size := hgl.2
  have c2 : w.cell? ⟨N, 2, none⟩ = some (.slice (some ⟨g, 0, none⟩) 1 cap) := by rw [cell_of_row w N 2 _ _ _ hE]; rfl
  have f2 : w.frozen? ⟨N, 2, none⟩ = false := frozen_of_row w N 2 _ _ hE
  have r0 : w.cell? ⟨g, 0, none⟩ = some (.float .f64 t) := hown.cellAt 0 (by omega)
  have r1 : w.cell? ⟨g, 1, none⟩ = some (.int .u64 s) := hown.cellAt 1 (by omega)
  have r2 : w.cell? ⟨g, 2, none⟩ = some (.iface 98 hv) := hown.cellAt 2 (by omega)
  have g0 : w.frozen? ⟨g, 0, none⟩ = false := hown.frozenAt 0
  have g1 : w.frozen? ⟨g, 1, none⟩ = false := hown.frozenAt 1
  have g2 : w.frozen? ⟨g, 2, none⟩ = false := hown.frozenAt 2
  go_enter Yba.func27, Yba.ntmps27
  go_wp2
  go_region
  go_wp2
  refine wp_loop_rounds 1 ?_
  rw [rounds_succ]
  go_wp2
  refine bodyPost_ret (v := .agg #[.float .f64 t, .int .u64 s, .iface 98 hv]) (by simp [results, Yba.results27, go_sem]) rfl ⟨rfl, .slice (some ⟨g, 0, none⟩) 0 cap, heap_two ?_, ?_, ?_⟩
  · refine heap_setCell_same _ N 2 #[.float .f64 now, .int .u64 seq, .slice (some ⟨g, 0, none⟩) 1 cap, .bool st, .int .u64 sd, .int .u64 str] _ _ ?_
    repeat rw [heap_setCell_other _ _ _ _ hNg]
    exact hE
  · have o1 := (hown.stored 0 (.float .f64 t)).1
    have o2 := (o1.stored 1 (.int .u64 s)).1
    have o3 := (o2.stored 2 (.iface 98 hv)).1
    have o4 := (o3.stored 0 (.float .f64 0)).1
    have o5 := (o4.stored 1 (.int .u64 0)).1
    have o6 := (o5.stored 2 .nilIface).1
    exact ownsRow_drew (((ownsRow_setCell_below (a := ⟨N, 2, none⟩) (ownsRow_emptied o6) (by show N < N + 5; omega) _).alloc _).alloc _)
  · have hS : ¬ (g < N + 5 ∧ g ≠ N) := by omega
    refine Keep.drew (Keep.alloc (Keep.alloc (Keep.setCell ?_ (by simp) _) (fun k hk => ?_) _) (fun k hk => ?_) _)
    · exact ((((((Keep.refl _ w).setCell hS _).setCell hS _).setCell hS _).setCell hS _).setCell hS _).setCell hS _
    · simp; omega
    · simp; omega

end Go.Proofs.Ybulkigu
