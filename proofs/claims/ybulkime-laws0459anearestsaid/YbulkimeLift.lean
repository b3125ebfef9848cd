/-
  OPENING THE ARGUMENTS OF THE TWO LAWS: arrays of four, the slice of frames.
-/
import Derived.Test.YbulkimeAgrees
import Derived.OpenShut
import Derived.ShutString
import Derived.ChangeOld
import Derived.Below
import Derived.Deep.Slices
import Derived.Laws.IdiomArrays
namespace Go.Proofs.Ybulkime
open Go.ChangeShapes Go.WideShapes Go.ChangeAt Go.RowKit
set_option linter.unusedVariables false

theorem own : ownKnob Yba.prog.godebug = none := by kernel_rfl
theorem laidOut : laidOutB Yba.prog = true := by kernel_rfl
theorem cells43 : Yba.prog.cellsOf 43 = 3 := by kernel_rfl
theorem cells40 : Yba.prog.cellsOf 40 = 1 := by kernel_rfl
theorem cells41 : Yba.prog.cellsOf 41 = 1 := by kernel_rfl
theorem cells4 : Yba.prog.cellsOf 4 = 1 := by kernel_rfl

theorem cell_lt {w : World} {a : Addr} {v : Value} (h : w.cell? a = some v) : a.block < w.heap.size := by
  unfold World.cell? at h
  split at h
  · rename_i hh
    exact (Array.getElem?_eq_some_iff.1 hh).1
  · cases h

section
variable {H : Type} {enc : TypeId × Value → H} {W : World} {base b0 : Nat} {spare : Nat → Bool} {held : Bool}

theorem okWide_arr4 {t e : TypeId} {v : Value} {r : Reach} (ht : Yba.prog.underlying t = some (.array 4 e)) (hc : Yba.prog.cellsOf t = 4) (h : Value.okWide Yba.prog W r b0 t v) : ∃ c0 c1 c2 c3, v = .agg #[c0, c1, c2, c3] := by
  simp only [Value.okWide, ht] at h
  obtain ⟨cs, h1, h2, _⟩ := h
  rw [hc] at h2
  obtain ⟨l⟩ := cs
  match l, h2 with
  | [c0, c1, c2, c3], _ => exact ⟨c0, c1, c2, c3, h1⟩

theorem open_arr4 {t e : TypeId} {k : IntKind} {v : Value} {r : Reach} {d : DataW H} {ps : List MemPlace} (ht : Yba.prog.underlying t = some (.array 4 e)) (hc : Yba.prog.cellsOf t = 4) (he : Yba.prog.underlying e = some (.int k)) (hce : Yba.prog.cellsOf e = 1)
    (hv : Value.okWide Yba.prog W r b0 t v) (h : DataW.Trod enc Yba.prog W base spare held t v d ps) : ∃ f : Nat → Int, v = .agg #[.int k (f 0), .int k (f 1), .int k (f 2), .int k (f 3)] := by
  obtain ⟨c0, c1, c2, c3, rfl⟩ := okWide_arr4 ht hc hv
  obtain ⟨fuel, hf⟩ := h
  obtain ⟨y0, y1, y2, y3, n, _, g0, g1, g2, g3⟩ := trod_array4 ht hce hf
  obtain ⟨x0, e0, _, _⟩ := DataW.trod_int he g0
  obtain ⟨x1, e1, _, _⟩ := DataW.trod_int he g1
  obtain ⟨x2, e2, _, _⟩ := DataW.trod_int he g2
  obtain ⟨x3, e3, _, _⟩ := DataW.trod_int he g3
  simp at e0 e1 e2 e3
  subst e0 e1 e2 e3
  exact ⟨fun i => match i with | 0 => x0 | 1 => x1 | 2 => x2 | _ => x3, rfl⟩

/-- a slice of integers, as a frame has it -/
theorem open_row {t e : TypeId} {k : IntKind} {fuel : Nat} {cs : List Value} {x : DataW H × List MemPlace} (ht : Yba.prog.underlying t = some (.slice e)) (he : Yba.prog.underlying e = some (.int k)) (hc : Yba.prog.cellsOf e = 1)
    (h : DataW.trod enc Yba.prog W base (fun _ => true) held fuel t cs = some x) :
    ∃ (p : Option Addr) (n c : Nat) (zs : List Int), cs = [.slice p n c] ∧ zs.length = n ∧ n ≤ 9223372036854775807 ∧ (∀ z ∈ zs, (Lit.int k z).wf = true) ∧
      (n = 0 ∨ ∃ b o, p = some ⟨b, o, none⟩ ∧ b < W.heap.size ∧ ∀ i, i < n → W.cell? ⟨b, o + i, none⟩ = some (.int k (zs.getD i 0))) := by
  rcases open_ints ht he hc h with ⟨hcs, _⟩ | ⟨a, len, cap, zs, hcs, _, hl, hm, hz, _, hcell, hwz⟩
  · exact ⟨none, 0, 0, [], hcs, rfl, by omega, fun z hz => by simp at hz, .inl rfl⟩
  · simp at hz
    have hm' : cap ≤ 9223372036854775807 := by simpa [maxLen] using hm
    refine ⟨some a, len, cap, zs.take len, hcs, by simp; omega, by omega, fun z hz => hwz z (List.mem_of_mem_take hz), ?_⟩
    by_cases h0 : len = 0
    · exact .inl h0
    · right
      obtain ⟨b, off, rfl, hc2⟩ := ints_at hcell (by omega)
      have hlt := cell_lt (hc2 0 (by omega))
      refine ⟨b, off, rfl, hlt, fun i hi => ?_⟩
      rw [hc2 i (by omega)]
      simp [List.getD, hi]

/-- one frame, out of its three cells -/
theorem open_frame {fuel : Nat} {cs : List Value} {x : DataW H × List MemPlace} (hl : cs.length = 3) (h : DataW.trod enc Yba.prog W base (fun _ => true) held fuel 43 cs = some x) :
    ∃ f : Fr, FrOk W.heap.size W f ∧ cs = [.slice f.np f.nn f.nc, .slice f.vp f.vn f.vc, .bool f.ix] := by
  match cs, hl with
  | [c0, c1, c2], _ =>
    obtain ⟨xs, m, _, _, _, hxl, hx⟩ := DataW.trod_struct Yba.underlying43 h
    have g0 := hx 0 _ rfl
    have g1 := hx 1 _ rfl
    have g2 := hx 2 _ rfl
    have hxl3 : xs.length = 3 := hxl
    match xs, hxl3 with
    | [y0, y1, y2], _ =>
      simp [cells40, cells41, cells4] at g0 g1 g2
      obtain ⟨np, nn, nc, zs, e0, l0, b0, w0, s0⟩ := open_row Yba.underlying40 Yba.underlying5 (by kernel_rfl) g0
      obtain ⟨vp, vn, vc, us, e1, l1, b1, w1, s1⟩ := open_row Yba.underlying41 Yba.underlying2 (by kernel_rfl) g1
      obtain ⟨ix, e2, _⟩ := DataW.trod_bool Yba.underlying4 g2
      simp at e0 e1 e2
      subst e0 e1 e2
      refine ⟨⟨np, nn, nc, vp, vn, vc, ix, zs, us⟩, ⟨l0, l1, b0, b1, fun i => ?_, s0, s1⟩, rfl⟩
      have := range_u8 w0 i
      simpa [List.getD] using this

/-- the slice of frames -/
theorem open_frames {a : Option Addr} {len cap : Nat} {d : DataW H} {ps : List MemPlace} (h : DataW.Trod enc Yba.prog W base (fun _ => true) held 24 (.slice a len cap) d ps) :
    ∃ FS : List Fr, FS.length = len ∧ len ≤ 9223372036854775807 ∧ Frames W.heap.size W a FS := by
  obtain ⟨fuel, hf⟩ := h
  rcases Go.Deep.open_slice Yba.underlying24 hf with ⟨hcs, _⟩ | ⟨a', len', cap', m, n, D, Pl, hcs, hb, hl, hm, hmm, _, hel⟩
  · simp [Value.cells] at hcs
    obtain ⟨rfl, rfl, rfl⟩ := hcs
    exact ⟨[], rfl, by omega, .inl rfl, fun f hf => by simp at hf⟩
  · simp [Value.cells] at hcs
    obtain ⟨rfl, rfl, rfl⟩ := hcs
    simp at hmm
    subst hmm
    have hm' : m ≤ 9223372036854775807 := by simpa [maxLen] using hm
    have hin : Inhabited Fr := ⟨⟨none, 0, 0, none, 0, 0, false, [], []⟩⟩
    obtain ⟨F, hF⟩ := Go.Deep.choose_lt (n := len) (p := fun i (f : Fr) => FrOk W.heap.size W f ∧ W.cell? ((a'.add (i * 3)).add 0) = some (.slice f.np f.nn f.nc) ∧ W.cell? ((a'.add (i * 3)).add 1) = some (.slice f.vp f.vn f.vc) ∧ W.cell? ((a'.add (i * 3)).add 2) = some (.bool f.ix)) (fun i hi => by
      obtain ⟨cs', h1, h2⟩ := hel i (by omega)
      rw [cells43] at h1
      obtain ⟨_, h3, h4⟩ := World.cells?_some h1
      obtain ⟨f, hf1, rfl⟩ := open_frame h3 h2
      exact ⟨f, hf1, h4 0 (by omega), h4 1 (by omega), h4 2 (by omega)⟩)
    refine ⟨(List.range len).map F, by simp, by omega, ?_, ?_⟩
    · by_cases h0 : len = 0
      · exact .inl (by simp [h0])
      · right
        obtain ⟨b, o, spot⟩ := a'
        have hspot : spot = none := by simpa [Addr.add] using World.cell?_spot (hF 0 (by omega)).2.1
        subst hspot
        refine ⟨b, o, rfl, ?_, fun j hj => ?_⟩
        · have := cell_lt (hF 0 (by omega)).2.1
          simpa [Addr.add] using this
        · simp at hj
          obtain ⟨_, q0, q1, q2⟩ := hF j hj
          simp only [Go.WideShapes.add_plain] at q0 q1 q2
          simp only [List.getElem_map, List.getElem_range]
          exact ⟨q0, q1, q2⟩
    · intro f hf
      obtain ⟨i, hi, rfl⟩ := List.mem_map.1 hf
      exact (hF i (List.mem_range.1 hi)).1

end
end Go.Proofs.Ybulkime
