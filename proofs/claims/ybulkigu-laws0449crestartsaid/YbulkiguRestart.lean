/-
  THE WALK OF LawS0449CRestart.
-/
import Derived.Test.YbulkiguRun
namespace Go.Proofs.Ybulkigu
open Go.ChangeShapes Go.WideShapes Go.ChangeAt Go.RowKit
attribute [local go_sem] run_store_float

theorem heap5 (w : World) (o0 o1 o2 o3 o4 : Obj) :
    (((((w.alloc o0).alloc o1).alloc o2).alloc o3).alloc o4).heap[w.heap.size]? = some o0 ∧ (((((w.alloc o0).alloc o1).alloc o2).alloc o3).alloc o4).heap[w.heap.size + 1]? = some o1 ∧
    (((((w.alloc o0).alloc o1).alloc o2).alloc o3).alloc o4).heap[w.heap.size + 2]? = some o2 ∧ (((((w.alloc o0).alloc o1).alloc o2).alloc o3).alloc o4).heap[w.heap.size + 3]? = some o3 ∧
    (((((w.alloc o0).alloc o1).alloc o2).alloc o3).alloc o4).heap[w.heap.size + 4]? = some o4 ∧ w.heap.size + 5 ≤ (((((w.alloc o0).alloc o1).alloc o2).alloc o3).alloc o4).heap.size := by
  show (((((w.heap.push o0).push o1).push o2).push o3).push o4)[w.heap.size]? = some o0 ∧ (((((w.heap.push o0).push o1).push o2).push o3).push o4)[w.heap.size + 1]? = some o1 ∧
    (((((w.heap.push o0).push o1).push o2).push o3).push o4)[w.heap.size + 2]? = some o2 ∧ (((((w.heap.push o0).push o1).push o2).push o3).push o4)[w.heap.size + 3]? = some o3 ∧
    (((((w.heap.push o0).push o1).push o2).push o3).push o4)[w.heap.size + 4]? = some o4 ∧ w.heap.size + 5 ≤ (((((w.heap.push o0).push o1).push o2).push o3).push o4).size
  simp only [Array.getElem?_push, Array.size_push]
  refine ⟨?_, ?_, ?_, ?_, ?_, by omega⟩
  all_goals (repeat (first | rw [if_pos (by omega)] | rw [if_neg (by omega)]))
  all_goals rw [if_pos trivial]

theorem run_any (N : Nat) (sd : Int) (w : World) (now : Nat) (seq s : Int) (sl : Value) (wk dl : Nat) (at_ : Nat)
    (hS : Sys N sd w now seq sl dl true wk 0 at_) (hown : w.ownsRow (N + 5) 102 3 sl 1 [.float .f64 wk, .int .u64 s, .iface 98 (.func (.func 24) #[.pointer (some ⟨N + 4, 0, none⟩)] #[])])
    (q0 : 0 ≤ seq) (q1 : seq ≤ 1000)
    (hi : FloatKind.f64.format.order wk 9218868437227405311 = some .lt) (he : FloatKind.f64.format.order wk wk = some .eq)
    (hid : FloatKind.f64.format.order dl 9218868437227405311 = some .lt) (hed : FloatKind.f64.format.order dl dl = some .eq)
    (hl : dl = wk ∨ FloatKind.f64.format.order wk dl = some .lt) :
    Calls Yba.prog 17 #[.pointer (some ⟨N, 0, none⟩)] w fun e w' => e = .returned (.bool false) ∧
      ∃ ao cap seq', Sys N sd w' dl seq' (.slice ao 0 cap) dl false dl 1 dl ∧ Below N w w' := by
  have fin : ∀ (w' : World) (sl' : Value), w'.ownsRow (N + 5) 102 3 sl' 0 [] → ∃ ao cap, sl' = .slice ao 0 cap := by
    intro w' sl' h
    rcases h.2 with ⟨rfl, _⟩ | ⟨g1, cap1, _, rfl, _⟩
    · exact ⟨none, 0, rfl⟩
    · exact ⟨_, cap1, rfl⟩
  rcases hl with rfl | hl
  · refine (run_due N sd w now seq s sl dl at_ hS hown hi he).mono ?_
    rintro e w' ⟨rfl, sl', h1, h2, h3⟩
    obtain ⟨ao, cap, rfl⟩ := fin w' sl' h2
    exact ⟨rfl, ao, cap, seq, h1, h3⟩
  · refine (run_wait N sd w now seq s sl wk dl at_ hS hown q0 q1 hi he hl hid hed).mono ?_
    rintro e w' ⟨rfl, sl', seq', h1, h2, h3⟩
    obtain ⟨ao, cap, rfl⟩ := fin w' sl' h2
    exact ⟨rfl, ao, cap, seq', h1, h3⟩

theorem sys_start (w : World) (s : Int) (dl : Nat) (at_ : Nat) :
    Sys w.heap.size s (((((w.alloc (.cells #[.float .f64 0, .int .u64 0, .slice none 0 0, .bool false, .int .u64 s, .int .u64 0] 51)).alloc (.cells #[.pointer (some ⟨w.heap.size, 0, none⟩)] 47)).alloc (.cells #[.int .i64 0] 3)).alloc (.cells #[.float .f64 at_] 41)).alloc
      (.cells #[.pointer (some ⟨w.heap.size, 0, none⟩), .func (.func 14) #[] #[.pointer (some ⟨w.heap.size + 2, 0, none⟩), .pointer (some ⟨w.heap.size + 1, 0, none⟩), .pointer (some ⟨w.heap.size + 3, 0, none⟩)], .float .f64 dl, .bool false, .float .f64 0, .iface 98 (.func (.func 24) #[.pointer (some ⟨w.heap.size + 4, 0, none⟩)] #[])] 86))
      0 0 (.slice none 0 0) dl false 0 0 at_ := by
  obtain ⟨h0, h1, h2, h3, h4, h5⟩ := heap5 w (.cells #[.float .f64 0, .int .u64 0, .slice none 0 0, .bool false, .int .u64 s, .int .u64 0] 51) (.cells #[.pointer (some ⟨w.heap.size, 0, none⟩)] 47) (.cells #[.int .i64 0] 3) (.cells #[.float .f64 at_] 41)
      (.cells #[.pointer (some ⟨w.heap.size, 0, none⟩), .func (.func 14) #[] #[.pointer (some ⟨w.heap.size + 2, 0, none⟩), .pointer (some ⟨w.heap.size + 1, 0, none⟩), .pointer (some ⟨w.heap.size + 3, 0, none⟩)], .float .f64 dl, .bool false, .float .f64 0, .iface 98 (.func (.func 24) #[.pointer (some ⟨w.heap.size + 4, 0, none⟩)] #[])] 86)
  exact ⟨h0, h1, h2, h3, h4, h5⟩

set_option maxHeartbeats 4000000 in
set_option maxRecDepth 20000 in
theorem restart_core (s f x : Int) (fa fb fd : Nat) (w : World)
    (hfa : floatOfInt .f64 f = fa) (hfb : floatOfInt .f64 x = fb)
    (hadd : ∀ t w, (binOp .add t (.float .f64 fa) (.float .f64 fb)).run Yba.prog w = .ok (.float .f64 fd) w)
    (hi : FloatKind.f64.format.order fa 9218868437227405311 = some .lt) (he : FloatKind.f64.format.order fa fa = some .eq)
    (hid : FloatKind.f64.format.order fd 9218868437227405311 = some .lt) (hed : FloatKind.f64.format.order fd fd = some .eq)
    (hl : fd = fa ∨ FloatKind.f64.format.order fa fd = some .lt) :
    Calls Yba.prog 7 #[.int .u64 s, .int .u16 f, .int .u16 x] w fun e w' => e = .returned (.bool true) ∧ Below w.heap.size w w' := by
  have hpp := eql47
  go_enter Yba.func7, Yba.ntmps7
  go_wp2_with fail
  refine (new_any _ _).mono ?_
  rintro e w' ⟨rfl, rfl⟩
  go_wp2_with fail
  refine (newTimer_any _ _ _ _ _).mono ?_
  rintro e w' ⟨rfl, rfl⟩
  go_wp2_with fail
  simp only [Nat.add_assoc, Nat.reduceAdd]
  refine (arm_any w.heap.size s _ 0 0 (.slice none 0 0) fa false 0 0 13830554455654793216 (sys_start w s fa 13830554455654793216) (World.ownsRow_nil _ _ _ _) (by omega) (by omega)).mono ?_
  rintro e w2 ⟨rfl, sl2, hS2, ho2, hB2⟩
  have hB02 : Below w.heap.size w w2 := by
    refine Below.trans ?_ hB2
    refine Below.alloc (Below.alloc (Below.alloc (Below.alloc (Below.alloc (Below.refl _ _) ?_ _) ?_ _) ?_ _) ?_ _) ?_ _ <;> simp
    all_goals omega
  clear hB2
  have c2 : w2.cell? ⟨w.heap.size + 4, 2, none⟩ = some (.float .f64 fa) := by rw [cell_of_row w2 _ 2 _ _ _ hS2.tim]; rfl
  have f2 : w2.frozen? ⟨w.heap.size + 4, 2, none⟩ = false := frozen_of_row w2 _ 2 _ _ hS2.tim
  have v0 : w2.cell? ⟨w.heap.size + 1, 0, none⟩ = some (.pointer (some ⟨w.heap.size, 0, none⟩)) := by rw [cell_of_row w2 _ 0 _ _ _ hS2.evar]; rfl
  go_wp2_with fail
  refine (run_any w.heap.size s _ 0 (0 + 1) 0 sl2 fa fd 13830554455654793216 (hS2.setTim 2 _ rfl) (ownsRow_setCell_below (a := ⟨w.heap.size + 4, 2, none⟩) ho2 (by show w.heap.size + 4 < w.heap.size + 5; omega) _) (by omega) (by omega) hi he hid hed hl).mono ?_
  rintro e w3 ⟨rfl, ao, cap, seq', hS3, hB3⟩
  have hB03 : Below w.heap.size w w3 := (hB02.setCell (p := ⟨w.heap.size + 4, 2, none⟩) (by show w.heap.size ≤ w.heap.size + 4; omega) _).trans hB3
  clear hB02 hB3 c2 f2 v0 hS2 ho2 hl hi he hid
  have u1 : w3.cell? ⟨w.heap.size + 1, 0, none⟩ = some (.pointer (some ⟨w.heap.size, 0, none⟩)) := by rw [cell_of_row w3 _ 0 _ _ _ hS3.evar]; rfl
  have u2 : w3.cell? ⟨w.heap.size + 2, 0, none⟩ = some (.int .i64 1) := by rw [cell_of_row w3 _ 0 _ _ _ hS3.cnt]; rfl
  have u3 : w3.cell? ⟨w.heap.size + 3, 0, none⟩ = some (.float .f64 fd) := by rw [cell_of_row w3 _ 0 _ _ _ hS3.atv]; rfl
  have u4 : w3.cell? ⟨w.heap.size + 4, 3, none⟩ = some (.bool false) := by rw [cell_of_row w3 _ 3 _ _ _ hS3.tim]; rfl
  have u5 : w3.cell? ⟨w.heap.size, 0, none⟩ = some (.float .f64 fd) := by rw [cell_of_row w3 _ 0 _ _ _ hS3.eng]; rfl
  have u6 : w3.cell? ⟨w.heap.size, 2, none⟩ = some (.slice ao 0 cap) := by rw [cell_of_row w3 _ 2 _ _ _ hS3.eng]; rfl
  go_wp2
  go_ret
  exact ⟨rfl, hB03⟩

end Go.Proofs.Ybulkigu
