/-
  THE WALK OF LawS0459ANearest.
-/
import Derived.Test.YbulkimeModel
namespace Go.Proofs.Ybulkime
open Go.RowKit

set_option maxHeartbeats 2000000 in
set_option maxRecDepth 100000 in
theorem nearest_any (w : World) (fl vl : Nat → Int) (fp : Option Addr) (n fc : Nat) (FS : List Fr) (hn : FS.length = n) (hm : n ≤ 9223372036854775807) (hF : Frames w.heap.size w fp FS) (m : Nat) (hm255 : m ≤ 255) :
    Calls Yba.prog 3 #[flagsV fl, valsV vl, .slice fp n fc, .int .u8 (m : Int)] w fun e w' => e = .returned (.bool true) ∧ Below w.heap.size w w' := by
  unfold flagsV valsV
  go_enter Yba.func3, Yba.ntmps3
  go_wp2_with fail
  obtain ⟨b1, b2, b3, b4⟩ := boxed_facts w fl vl
  have hFb : Frames w.heap.size (boxed w fl vl) fp FS := hF.on b1
  obtain ⟨wa, hwa⟩ : ∃ x, x = boxed w fl vl := ⟨_, rfl⟩
  have hwb := hwa
  unfold boxed at hwb
  rw [← hwb]
  rw [← hwa] at b1 b2 b3 b4 hFb
  clear hwb hwa
  have p0 : wa.cell? ⟨w.heap.size, 0, none⟩ = some (.int .u8 (fl 0)) := by rw [cell_row b3]; rfl
  have p1 : wa.cell? ⟨w.heap.size, 1, none⟩ = some (.int .u8 (fl 1)) := by rw [cell_row b3]; rfl
  have p2 : wa.cell? ⟨w.heap.size, 2, none⟩ = some (.int .u8 (fl 2)) := by rw [cell_row b3]; rfl
  have p3 : wa.cell? ⟨w.heap.size, 3, none⟩ = some (.int .u8 (fl 3)) := by rw [cell_row b3]; rfl
  have q0 : wa.cell? ⟨w.heap.size + 1, 0, none⟩ = some (.int .i64 (vl 0)) := by rw [cell_row b4]; rfl
  have q1 : wa.cell? ⟨w.heap.size + 1, 1, none⟩ = some (.int .i64 (vl 1)) := by rw [cell_row b4]; rfl
  have q2 : wa.cell? ⟨w.heap.size + 1, 2, none⟩ = some (.int .i64 (vl 2)) := by rw [cell_row b4]; rfl
  have q3 : wa.cell? ⟨w.heap.size + 1, 3, none⟩ = some (.int .i64 (vl 3)) := by rw [cell_row b4]; rfl
  refine (ok_any _ wa fp n fc FS hn hm hFb).mono ?_
  rintro e w1 ⟨r, rfl, rfl, hr⟩
  cases r with
  | false =>
    go_wp2
    go_ret
    exact ⟨rfl, b1⟩
  | true =>
    have hsm := hr rfl
    obtain ⟨k, hk⟩ : ∃ k, k = m % 4 := ⟨_, rfl⟩
    have hti := tmod4 m k hk
    have hk4 : k < 4 := by omega
    clear hk hr
    have hk4i : (k : Int) < 4 := by omega
    have hnn : ∀ f ∈ FS.reverse, f.nn ≤ 1000000 := fun f hf => Nat.le_trans (hsm.2 f (List.mem_reverse.1 hf)) (by omega)
    go_wp2_with fail
    refine (build_any wa fl vl fp n fc FS hn hsm (hFb.mono b1.size)).mono ?_
    rintro e w2 ⟨b, rfl, hB⟩
    have hC := hB.whole hn
    have c0 := hB.row.cell k hk4
    have HB2 : Hid (Below w.heap.size w w2) := b1.trans (hB.bel.mono b1.size)
    have lb : w.heap.size + 1 < w2.heap.size := by have := hB.big; have h2 := b2; omega
    have b3' := heap_on hB.bel b3
    have b4' := heap_on hB.bel b4
    clear p0 p1 p2 p3 q0 q1 q2 q3 b3 b4 b2
    go_wp2_with fail
    refine (lookup_any w2 _ k vl _ _ hk4 hB.syms FS.reverse hnn b hC).mono ?_
    rintro e w3 ⟨rfl, hb3⟩
    have HB3 : Hid (Below w.heap.size w w3) := HB2.out.trans (hb3.mono HB2.out.size)
    obtain ⟨o, ok, hla⟩ : ∃ o ok, lookAns k vl (bdF fl) (lcF fl) FS.reverse = (o, ok) := ⟨_, _, rfl⟩
    rw [hla]
    obtain ⟨a, x, hv⟩ := val3_agg o
    simp only [hv]
    have b3 := heap_on hb3 b3'
    have b4 := heap_on hb3 b4'
    have p0 : w3.cell? ⟨w.heap.size, 0, none⟩ = some (.int .u8 (fl 0)) := by rw [cell_row b3]; rfl
    have p1 : w3.cell? ⟨w.heap.size, 1, none⟩ = some (.int .u8 (fl 1)) := by rw [cell_row b3]; rfl
    have p2 : w3.cell? ⟨w.heap.size, 2, none⟩ = some (.int .u8 (fl 2)) := by rw [cell_row b3]; rfl
    have p3 : w3.cell? ⟨w.heap.size, 3, none⟩ = some (.int .u8 (fl 3)) := by rw [cell_row b3]; rfl
    have q0 : w3.cell? ⟨w.heap.size + 1, 0, none⟩ = some (.int .i64 (vl 0)) := by rw [cell_row b4]; rfl
    have q1 : w3.cell? ⟨w.heap.size + 1, 1, none⟩ = some (.int .i64 (vl 1)) := by rw [cell_row b4]; rfl
    have q2 : w3.cell? ⟨w.heap.size + 1, 2, none⟩ = some (.int .i64 (vl 2)) := by rw [cell_row b4]; rfl
    have q3 : w3.cell? ⟨w.heap.size + 1, 3, none⟩ = some (.int .i64 (vl 3)) := by rw [cell_row b4]; rfl
    have lb3 : w.heap.size + 1 < w3.heap.size := (Array.getElem?_eq_some_iff.1 b4).1
    have lb4 : w.heap.size < w3.heap.size := by omega
    have HF3 : Hid (Frames w.heap.size w3 fp FS) := hF.on HB3.out
    clear b3 b4 b3' b4' c0 hb3 hB hC lb
    go_wp2_with fail
    have hbq := below1 w3 (.cells #[.int .u8 a, .int .i64 x, .nilIface] 32)
    have HB4 : Hid (Below w.heap.size w (w3.alloc (.cells #[.int .u8 a, .int .i64 x, .nilIface] 32))) := HB3.out.trans (hbq.mono HB3.out.size)
    refine (model_any _ fl vl fp n fc FS hn hm ((hF.on HB4.out).mono HB4.out.size) k hk4).mono ?_
    rintro e w4 ⟨rfl, hb4⟩
    rw [hla]
    simp only [hv]
    have HB5 : Hid (Below w.heap.size w w4) := HB4.out.trans (hb4.mono HB4.out.size)
    have r0 : w4.heap[w3.heap.size]? = some (.cells #[.int .u8 a, .int .i64 x, .nilIface] 32 (0, 0)) := heap_on hb4 (alloc_new w3 _)
    have r1 : w4.cell? ⟨w3.heap.size, 0, none⟩ = some (.int .u8 a) := by rw [cell_row r0]; rfl
    have r2 : w4.cell? ⟨w3.heap.size, 1, none⟩ = some (.int .i64 x) := by rw [cell_row r0]; rfl
    have r3 : w4.cell? ⟨w3.heap.size, 2, none⟩ = some .nilIface := by rw [cell_row r0]; rfl
    have l4 : w3.heap.size < w4.heap.size := (Array.getElem?_eq_some_iff.1 r0).1
    have hle : w.heap.size ≤ w4.heap.size := HB5.out.size
    clear hb4 hbq r0 p0 p1 p2 p3 q0 q1 q2 q3
    cases ok
    all_goals
      go_wp2_with fail
      have he := eq_same o (w4.alloc (.cells #[.int .u8 a, .int .i64 x, .nilIface] 32))
      rw [hv] at he
      refine he.mono ?_
      rintro e w5 ⟨rfl, hb5⟩
      have HB6 : Hid (Below w.heap.size w w5) := (HB5.out.alloc hle _).trans (hb5.mono (by rw [alloc_size]; omega))
      clear he hb5
      go_wp2
      go_ret
      exact ⟨rfl, HB6.out⟩

end Go.Proofs.Ybulkime
