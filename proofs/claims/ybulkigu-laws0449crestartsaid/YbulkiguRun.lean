/-
  THE WALK OF (*Engine).Run: one event of the timer's is queued; it waits once, or is due at once.
-/
import Derived.Test.YbulkiguFire
import Derived.Test.YbulkiguFloat
namespace Go.Proofs.Ybulkigu
open Go.ChangeShapes Go.WideShapes Go.ChangeAt Go.RowKit
attribute [local go_sem] run_store_float

set_option maxHeartbeats 400000 in
theorem isInf_any (b : Nat) (w : World) (h : FloatKind.f64.format.order b 9218868437227405311 = some .lt) :
    Calls Yba.prog 26 #[.float .f64 b, .int .i64 1] w fun e w' => e = .returned (.bool false) ∧ w = w' := by
  go_enter Yba.func26, Yba.ntmps26
  go_wp2
  go_ret
  exact ⟨rfl, rfl⟩

theorem method_fire (f : Fn) (bs cs : Array Value) (w : World) : (method 292 98 (.func f bs cs) "Fire").run Yba.prog w = .ok (101, .func f bs cs) w := by kernel_rfl

set_option maxHeartbeats 400000 in
theorem handler_wait (N : Nat) (sd : Int) (w : World) (now : Nat) (seq : Int) (sl : Value) (dl : Nat) (calls : Int) (at_ : Nat)
    (hS : Sys N sd w now seq sl dl true now calls at_) (hown : w.ownsRow (N + 5) 102 3 sl 0 []) (h0 : 0 ≤ seq) (h1 : seq ≤ 1000)
    (he : FloatKind.f64.format.order now now = some .eq) (hl : FloatKind.f64.format.order now dl = some .lt) :
    Calls Yba.prog 101 #[.func (.func 24) #[.pointer (some ⟨N + 4, 0, none⟩)] #[]] w fun e w' => e = .returned (.tuple #[]) ∧
      ∃ sl', Sys N sd w' now (seq + 1) sl' dl true dl calls at_ ∧
        w'.ownsRow (N + 5) 102 3 sl' 1 [.float .f64 dl, .int .u64 seq, .iface 98 (.func (.func 24) #[.pointer (some ⟨N + 4, 0, none⟩)] #[])] ∧ Below N w w' := by
  go_enter Yba.func101, Yba.ntmps101
  go_wp2_with fail
  refine (fire_wait N sd w now seq sl dl calls at_ hS hown h0 h1 he hl).mono ?_
  rintro e w' ⟨rfl, sl', h2, h3, h4⟩
  go_wp2
  go_end0
  exact ⟨rfl, sl', h2, h3, h4⟩

set_option maxHeartbeats 400000 in
theorem handler_due (N : Nat) (sd : Int) (w : World) (now : Nat) (seq : Int) (sl : Value) (dl : Nat) (at_ : Nat)
    (hS : Sys N sd w now seq sl dl true now 0 at_) (hown : w.ownsRow (N + 5) 102 3 sl 0 [])
    (he : FloatKind.f64.format.order now now = some .eq) (hl : FloatKind.f64.format.order now dl = some .eq) :
    Calls Yba.prog 101 #[.func (.func 24) #[.pointer (some ⟨N + 4, 0, none⟩)] #[]] w fun e w' => e = .returned (.tuple #[]) ∧
      Sys N sd w' now seq sl dl false now 1 now ∧ w'.ownsRow (N + 5) 102 3 sl 0 [] ∧ Below N w w' := by
  go_enter Yba.func101, Yba.ntmps101
  go_wp2_with fail
  refine (fire_due N sd w now seq sl dl at_ hS hown he hl).mono ?_
  rintro e w' ⟨rfl, h2, h3, h4⟩
  go_wp2
  go_end0
  exact ⟨rfl, h2, h3, h4⟩

set_option maxHeartbeats 4000000 in
set_option maxRecDepth 20000 in
theorem run_due (N : Nat) (sd : Int) (w : World) (now : Nat) (seq s : Int) (sl : Value) (dl : Nat) (at_ : Nat)
    (hS : Sys N sd w now seq sl dl true dl 0 at_) (hown : w.ownsRow (N + 5) 102 3 sl 1 [.float .f64 dl, .int .u64 s, .iface 98 (.func (.func 24) #[.pointer (some ⟨N + 4, 0, none⟩)] #[])])
    (hi : FloatKind.f64.format.order dl 9218868437227405311 = some .lt) (he : FloatKind.f64.format.order dl dl = some .eq) :
    Calls Yba.prog 17 #[.pointer (some ⟨N, 0, none⟩)] w fun e w' => e = .returned (.bool false) ∧
      ∃ sl', Sys N sd w' dl seq sl' dl false dl 1 dl ∧ w'.ownsRow (N + 5) 102 3 sl' 0 [] ∧ Below N w w' := by
  obtain ⟨g, cap, rfl⟩ := Joins.ownsRow_form hown (by omega)
  have n2 : w.cell? ⟨N, 2, none⟩ = some (.slice (some ⟨g, 0, none⟩) 1 cap) := by rw [cell_of_row w _ 2 _ _ _ hS.eng]; rfl
  have n3 : w.cell? ⟨N, 3, none⟩ = some (.bool false) := by rw [cell_of_row w _ 3 _ _ _ hS.eng]; rfl
  have r0 : w.cell? ⟨g, 0, none⟩ = some (.float .f64 dl) := hown.cellAt 0 (by omega)
  go_enter Yba.func17, Yba.ntmps17
  go_wp2
  refine wp_loop_rounds 2 ?_
  rw [rounds_succ]
  go_wp2_with fail
  refine (isInf_any _ _ hi).mono ?_
  rintro e w' ⟨rfl, rfl⟩
  go_wp2_with fail
  refine (pop_any N _ now seq sd 0 _ _ false dl s hS.eng hown hS.size).mono ?_
  rintro e w1 ⟨rfl, sl1, hE1, ho1, HK1⟩
  have hS1 := hS.kept hE1 HK1
  have m0 : w1.cell? ⟨N, 0, none⟩ = some (.float .f64 now) := by rw [cell_of_row w1 _ 0 _ _ _ hS1.eng]; rfl
  have m0f : w1.frozen? ⟨N, 0, none⟩ = false := frozen_of_row w1 _ 0 _ _ hS1.eng
  have hsz : N < w1.heap.size := by have := hS1.size; omega
  have hmf := method_fire
  go_wp2_with fail
  refine (handler_due N sd _ dl seq sl1 dl at_ ((hS1.setNow dl).alloc _) (World.ownsRow.alloc (ownsRow_setCell_below (a := ⟨N, 0, none⟩) ho1 (by show N < N + 5; omega) _) _) he he).mono ?_
  rintro e w2 ⟨rfl, hS2, ho2, hB2⟩
  have p3 : w2.cell? ⟨N, 3, none⟩ = some (.bool false) := by rw [cell_of_row w2 _ 3 _ _ _ hS2.eng]; rfl
  have p2 : w2.cell? ⟨N, 2, none⟩ = some sl1 := by rw [cell_of_row w2 _ 2 _ _ _ hS2.eng]; rfl
  obtain ⟨ao, cap1, rfl⟩ : ∃ ao cap1, sl1 = .slice ao 0 cap1 := by
    rcases ho2.2 with ⟨rfl, _⟩ | ⟨g1, cap1, _, rfl, _⟩
    · exact ⟨none, 0, rfl⟩
    · exact ⟨_, cap1, rfl⟩
  go_wp2
  rw [rounds_succ]
  go_wp2
  go_ret
  refine ⟨rfl, _, hS2, ho2, (HK1.below.trans ?_).trans hB2⟩
  refine Below.alloc (Below.setCell (p := ⟨N, 0, none⟩) (Below.refl _ _) (Nat.le_refl _) _) ?_ _
  have := hS1.size
  simp
  omega

set_option maxHeartbeats 4000000 in
set_option maxRecDepth 20000 in
theorem run_wait (N : Nat) (sd : Int) (w : World) (now : Nat) (seq s : Int) (sl : Value) (wk dl : Nat) (at_ : Nat)
    (hS : Sys N sd w now seq sl dl true wk 0 at_) (hown : w.ownsRow (N + 5) 102 3 sl 1 [.float .f64 wk, .int .u64 s, .iface 98 (.func (.func 24) #[.pointer (some ⟨N + 4, 0, none⟩)] #[])])
    (q0 : 0 ≤ seq) (q1 : seq ≤ 1000)
    (hi : FloatKind.f64.format.order wk 9218868437227405311 = some .lt) (he : FloatKind.f64.format.order wk wk = some .eq) (hl : FloatKind.f64.format.order wk dl = some .lt)
    (hid : FloatKind.f64.format.order dl 9218868437227405311 = some .lt) (hed : FloatKind.f64.format.order dl dl = some .eq) :
    Calls Yba.prog 17 #[.pointer (some ⟨N, 0, none⟩)] w fun e w' => e = .returned (.bool false) ∧
      ∃ sl' seq', Sys N sd w' dl seq' sl' dl false dl 1 dl ∧ w'.ownsRow (N + 5) 102 3 sl' 0 [] ∧ Below N w w' := by
  obtain ⟨g, cap, rfl⟩ := Joins.ownsRow_form hown (by omega)
  have n2 : w.cell? ⟨N, 2, none⟩ = some (.slice (some ⟨g, 0, none⟩) 1 cap) := by rw [cell_of_row w _ 2 _ _ _ hS.eng]; rfl
  have n3 : w.cell? ⟨N, 3, none⟩ = some (.bool false) := by rw [cell_of_row w _ 3 _ _ _ hS.eng]; rfl
  have r0 : w.cell? ⟨g, 0, none⟩ = some (.float .f64 wk) := hown.cellAt 0 (by omega)
  have hmf := method_fire
  go_enter Yba.func17, Yba.ntmps17
  go_wp2
  refine wp_loop_rounds 3 ?_
  rw [rounds_succ]
  go_wp2_with fail
  refine (isInf_any _ _ hi).mono ?_
  rintro e w' ⟨rfl, rfl⟩
  go_wp2_with fail
  refine (pop_any N _ now seq sd 0 _ _ false wk s hS.eng hown hS.size).mono ?_
  rintro e w1 ⟨rfl, sl1, hE1, ho1, HK1⟩
  have hS1 := hS.kept hE1 HK1
  have m0 : w1.cell? ⟨N, 0, none⟩ = some (.float .f64 now) := by rw [cell_of_row w1 _ 0 _ _ _ hS1.eng]; rfl
  have m0f : w1.frozen? ⟨N, 0, none⟩ = false := frozen_of_row w1 _ 0 _ _ hS1.eng
  have hsz : N < w1.heap.size := by have := hS1.size; omega
  go_wp2_with fail
  refine (handler_wait N sd _ wk seq sl1 dl 0 at_ ((hS1.setNow wk).alloc _) (World.ownsRow.alloc (ownsRow_setCell_below (a := ⟨N, 0, none⟩) ho1 (by show N < N + 5; omega) _) _) q0 q1 he hl).mono ?_
  rintro e w2 ⟨rfl, sl2, hS2, ho2, hB2⟩
  obtain ⟨g2, cap2, rfl⟩ := Joins.ownsRow_form ho2 (by omega)
  have hB02 : Below N w w2 := by
    refine (HK1.below.trans (Below.alloc (Below.setCell (p := ⟨N, 0, none⟩) (Below.refl _ _) (Nat.le_refl _) _) ?_ _)).trans hB2
    have := hS1.size
    simp
    omega
  clear hB2 HK1 hS1 hE1 ho1 m0 m0f hsz hS hown n2 n3 r0
  have p2 : w2.cell? ⟨N, 2, none⟩ = some (.slice (some ⟨g2, 0, none⟩) 1 cap2) := by rw [cell_of_row w2 _ 2 _ _ _ hS2.eng]; rfl
  have p3 : w2.cell? ⟨N, 3, none⟩ = some (.bool false) := by rw [cell_of_row w2 _ 3 _ _ _ hS2.eng]; rfl
  have q0 : w2.cell? ⟨g2, 0, none⟩ = some (.float .f64 dl) := ho2.cellAt 0 (by omega)
  go_wp2
  rw [rounds_succ]
  go_wp2_with fail
  refine (isInf_any _ _ hid).mono ?_
  rintro e w' ⟨rfl, rfl⟩
  go_wp2_with fail
  refine (pop_any N _ wk (seq + 1) sd 0 _ _ false dl seq hS2.eng ho2 hS2.size).mono ?_
  rintro e w3 ⟨rfl, sl3, hE3, ho3, HK3⟩
  have hS3 := hS2.kept hE3 HK3
  have m0 : w3.cell? ⟨N, 0, none⟩ = some (.float .f64 wk) := by rw [cell_of_row w3 _ 0 _ _ _ hS3.eng]; rfl
  have m0f : w3.frozen? ⟨N, 0, none⟩ = false := frozen_of_row w3 _ 0 _ _ hS3.eng
  have hsz : N < w3.heap.size := by have := hS3.size; omega
  go_wp2_with fail
  refine (handler_due N sd _ dl (seq + 1) sl3 dl at_ ((hS3.setNow dl).alloc _) (World.ownsRow.alloc (ownsRow_setCell_below (a := ⟨N, 0, none⟩) ho3 (by show N < N + 5; omega) _) _) hed hed).mono ?_
  rintro e w4 ⟨rfl, hS4, ho4, hB4⟩
  have hB03 : Below N w2 w4 := by
    refine (HK3.below.trans (Below.alloc (Below.setCell (p := ⟨N, 0, none⟩) (Below.refl _ _) (Nat.le_refl _) _) ?_ _)).trans hB4
    have := hS3.size
    simp
    omega
  have u3 : w4.cell? ⟨N, 3, none⟩ = some (.bool false) := by rw [cell_of_row w4 _ 3 _ _ _ hS4.eng]; rfl
  have u2 : w4.cell? ⟨N, 2, none⟩ = some sl3 := by rw [cell_of_row w4 _ 2 _ _ _ hS4.eng]; rfl
  obtain ⟨ao, cap1, rfl⟩ : ∃ ao cap1, sl3 = .slice ao 0 cap1 := by
    rcases ho4.2 with ⟨rfl, _⟩ | ⟨g1, cap1, _, rfl, _⟩
    · exact ⟨none, 0, rfl⟩
    · exact ⟨_, cap1, rfl⟩
  go_wp2
  rw [rounds_succ]
  go_wp2
  go_ret
  exact ⟨rfl, _, _, hS4, ho4, hB02.trans hB03⟩

end Go.Proofs.Ybulkigu
