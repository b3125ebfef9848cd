/-
  THE WALK OF LawS0459AValueAgrees.
-/
import Derived.Test.YbulkimeBuild
namespace Go.Proofs.Ybulkime
open Go.RowKit

theorem tmod4 (m k : Nat) (h : k = m % 4) : (m : Int).tmod 4 = (k : Int) := by
  rw [Int.tmod_eq_emod_of_nonneg (by omega)]
  omega

theorem Built.whole {w0 w : World} {N n b : Nat} {fl vl : Nat → Int} {FS : List Fr} (h : Built w0 N fl vl FS w n b) (hn : FS.length = n) : Chain w (N + 1 + 1 + 1) FS.reverse b := by
  have := h.chain
  rw [List.take_of_length_le (by omega)] at this
  exact this

theorem FrOk.mono {B B' : Nat} {w : World} {f : Fr} (h : FrOk B w f) (hb : B ≤ B') : FrOk B' w f where
  nl := h.nl
  vl := h.vl
  nm := h.nm
  vm := h.vm
  nb := h.nb
  ns := by
    rcases h.ns with h0 | ⟨b, o, h1, h2, h3⟩
    · exact .inl h0
    · exact .inr ⟨b, o, h1, by omega, h3⟩
  vs := by
    rcases h.vs with h0 | ⟨b, o, h1, h2, h3⟩
    · exact .inl h0
    · exact .inr ⟨b, o, h1, by omega, h3⟩

theorem Frames.mono {B B' : Nat} {w : World} {fp : Option Addr} {FS : List Fr} (h : Frames B w fp FS) (hb : B ≤ B') : Frames B' w fp FS where
  row := by
    rcases h.row with h0 | ⟨b, o, h1, h2, h3⟩
    · exact .inl h0
    · exact .inr ⟨b, o, h1, by omega, h3⟩
  each := fun f hf => (h.each f hf).mono hb

/-- the two boxes of the arrays that came -/
def boxed (w : World) (fl vl : Nat → Int) : World :=
  (w.alloc (.cells #[.int .u8 (fl 0), .int .u8 (fl 1), .int .u8 (fl 2), .int .u8 (fl 3)] 22)).alloc (.cells #[.int .i64 (vl 0), .int .i64 (vl 1), .int .i64 (vl 2), .int .i64 (vl 3)] 23)

theorem boxed_facts (w : World) (fl vl : Nat → Int) : Below w.heap.size w (boxed w fl vl) ∧ (boxed w fl vl).heap.size = w.heap.size + 1 + 1 ∧
    (boxed w fl vl).heap[w.heap.size]? = some (.cells #[.int .u8 (fl 0), .int .u8 (fl 1), .int .u8 (fl 2), .int .u8 (fl 3)] 22 (0, 0)) ∧
    (boxed w fl vl).heap[w.heap.size + 1]? = some (.cells #[.int .i64 (vl 0), .int .i64 (vl 1), .int .i64 (vl 2), .int .i64 (vl 3)] 23 (0, 0)) := by
  refine ⟨((Below.refl _ _).alloc (Nat.le_refl _) _).alloc (by simp) _, ?_, alloc_old (alloc_new w _) _, ?_⟩
  · unfold boxed
    rw [alloc_size, alloc_size]
  · have := alloc_new (w.alloc (.cells #[.int .u8 (fl 0), .int .u8 (fl 1), .int .u8 (fl 2), .int .u8 (fl 3)] 22)) (.cells #[.int .i64 (vl 0), .int .i64 (vl 1), .int .i64 (vl 2), .int .i64 (vl 3)] 23)
    rw [alloc_size] at this
    exact this

theorem val3_agg (o : Option Int) : ∃ a x : Int, val3 o = .agg #[.int .u8 a, .int .i64 x, .nilIface] := by
  cases o with
  | some x => exact ⟨2, x, rfl⟩
  | none => exact ⟨0, 0, rfl⟩

theorem RowY.cell {w : World} {g Y : Nat} (h : RowY w g Y 4) (k : Nat) (hk : k < 4) : w.cell? ⟨g, k, none⟩ = some (.pointer (some ⟨Y + k, 0, none⟩)) := by
  obtain ⟨cs, h1, _, h3⟩ := h
  rw [cell_row h1]
  exact h3 k hk

set_option maxHeartbeats 2000000 in
set_option maxRecDepth 100000 in
theorem agrees_any (w : World) (fl vl : Nat → Int) (fp : Option Addr) (n fc : Nat) (FS : List Fr) (hn : FS.length = n) (hm : n ≤ 9223372036854775807) (hF : Frames w.heap.size w fp FS) (m : Nat) (hm255 : m ≤ 255) :
    Calls Yba.prog 4 #[flagsV fl, valsV vl, .slice fp n fc, .int .u8 (m : Int)] w fun e w' => e = .returned (.bool true) ∧ Below w.heap.size w w' := by
  unfold flagsV valsV
  go_enter Yba.func4, Yba.ntmps4
  go_wp2_with fail
  obtain ⟨b1, b2, b3, b4⟩ := boxed_facts w fl vl
  have hFb : Frames w.heap.size (boxed w fl vl) fp FS := hF.on b1
  obtain ⟨wa, hwa⟩ : ∃ x, x = boxed w fl vl := ⟨_, rfl⟩
  have hwb := hwa
  unfold boxed at hwb
  rw [← hwb]
  rw [← hwa] at b1 b2 b3 b4 hFb
  clear hwb hwa
  have p0 : wa.cell? ⟨w.heap.size, 0, none⟩ = some (.int .u8 (fl 0)) := by rw [cell_row b3]; rfl
  have p1 : wa.cell? ⟨w.heap.size, 1, none⟩ = some (.int .u8 (fl 1)) := by rw [cell_row b3]; rfl
  have p2 : wa.cell? ⟨w.heap.size, 2, none⟩ = some (.int .u8 (fl 2)) := by rw [cell_row b3]; rfl
  have p3 : wa.cell? ⟨w.heap.size, 3, none⟩ = some (.int .u8 (fl 3)) := by rw [cell_row b3]; rfl
  have q0 : wa.cell? ⟨w.heap.size + 1, 0, none⟩ = some (.int .i64 (vl 0)) := by rw [cell_row b4]; rfl
  have q1 : wa.cell? ⟨w.heap.size + 1, 1, none⟩ = some (.int .i64 (vl 1)) := by rw [cell_row b4]; rfl
  have q2 : wa.cell? ⟨w.heap.size + 1, 2, none⟩ = some (.int .i64 (vl 2)) := by rw [cell_row b4]; rfl
  have q3 : wa.cell? ⟨w.heap.size + 1, 3, none⟩ = some (.int .i64 (vl 3)) := by rw [cell_row b4]; rfl
  refine (ok_any _ wa fp n fc FS hn hm hFb).mono ?_
  rintro e w1 ⟨r, rfl, rfl, hr⟩
  cases r with
  | false =>
    go_wp2
    go_ret
    exact ⟨rfl, b1⟩
  | true =>
    have hsm := hr rfl
    obtain ⟨k, hk⟩ : ∃ k, k = m % 4 := ⟨_, rfl⟩
    have hti := tmod4 m k hk
    have hk4 : k < 4 := by omega
    clear hk hr
    have hk4i : (k : Int) < 4 := by omega
    have hnn : ∀ f ∈ FS.reverse, f.nn ≤ 1000000 := fun f hf => Nat.le_trans (hsm.2 f (List.mem_reverse.1 hf)) (by omega)
    go_wp2_with fail
    refine (build_any wa fl vl fp n fc FS hn hsm (hFb.mono b1.size)).mono ?_
    rintro e w2 ⟨b, rfl, hB⟩
    have hC := hB.whole hn
    have c0 := hB.row.cell k hk4
    have HB2 : Hid (Below w.heap.size w w2) := b1.trans (hB.bel.mono b1.size)
    clear p0 p1 p2 p3 q0 q1 q2 q3 b3 b4 b2
    go_wp2_with fail
    refine (value_any w2 _ k vl _ _ hk4 hB.syms FS.reverse hnn b hC).mono ?_
    rintro e w3 ⟨rfl, hb3⟩
    have hB3 := hB.on hb3
    have HB3 : Hid (Below w.heap.size w w3) := HB2.out.trans (hb3.mono HB2.out.size)
    obtain ⟨o, ok, hla⟩ : ∃ o ok, lookAns k vl (bdF fl) (lcF fl) FS.reverse = (o, ok) := ⟨_, _, rfl⟩
    rw [hla]
    obtain ⟨a, x, hv⟩ := val3_agg o
    simp only [hv]
    have c3 := hB3.row.cell k hk4
    have lc3 : wa.heap.size + 1 + 1 < w3.heap.size := by have := hB3.big; omega
    go_wp2_with fail
    have hB4 := hB3.on (below1 w3 (.cells #[.int .u8 a, .int .i64 x, .nilIface] 32))
    refine (lookup_any _ _ k vl _ _ hk4 hB4.syms FS.reverse hnn b (hB4.whole hn)).mono ?_
    rintro e w4 ⟨rfl, hb4⟩
    rw [hla]
    simp only [hv]
    have HB4 : Hid (Below w.heap.size w w4) := (HB3.out.alloc HB3.out.size _).trans (hb4.mono (by rw [alloc_size]; have := HB3.out.size; omega))
    have r0 : w4.heap[w3.heap.size]? = some (.cells #[.int .u8 a, .int .i64 x, .nilIface] 32 (0, 0)) := heap_on hb4 (alloc_new w3 _)
    have r1 : w4.cell? ⟨w3.heap.size, 0, none⟩ = some (.int .u8 a) := by rw [cell_row r0]; rfl
    have r2 : w4.cell? ⟨w3.heap.size, 1, none⟩ = some (.int .i64 x) := by rw [cell_row r0]; rfl
    have r3 : w4.cell? ⟨w3.heap.size, 2, none⟩ = some .nilIface := by rw [cell_row r0]; rfl
    have l4 : w3.heap.size < w4.heap.size := (Array.getElem?_eq_some_iff.1 r0).1
    have hle : w.heap.size ≤ w4.heap.size := HB4.out.size
    clear hb4 hB4 hB3 hB hC hb3 r0 c0 c3
    go_wp2_with fail
    have he := eq_same o (w4.alloc (.cells #[.int .u8 a, .int .i64 x, .nilIface] 32))
    rw [hv] at he
    refine he.mono ?_
    rintro e w5 ⟨rfl, hb5⟩
    have HB5 : Hid (Below w.heap.size w w5) := (HB4.out.alloc hle _).trans (hb5.mono (by rw [alloc_size]; omega))
    clear he hb5
    go_wp2
    go_ret
    exact ⟨rfl, HB5.out⟩

end Go.Proofs.Ybulkime
