/-
  THE FRAMES THAT CAME IN; THE WALKS OF zzs0459aok AND zzs0459aeq.
-/
import Derived.Test.YbulkimeLookup
namespace Go.Proofs.Ybulkime
open Go.RowKit

/-- a frame's slices lie below block B -/
structure FrOk (B : Nat) (w : World) (f : Fr) : Prop where
  nl : f.names.length = f.nn
  vl : f.vals.length = f.vn
  nm : f.nn ≤ 9223372036854775807
  vm : f.vn ≤ 9223372036854775807
  nb : ∀ i, 0 ≤ f.names.getD i 0 ∧ f.names.getD i 0 ≤ 255
  ns : f.nn = 0 ∨ ∃ b o, f.np = some ⟨b, o, none⟩ ∧ b < B ∧ ∀ i, i < f.nn → w.cell? ⟨b, o + i, none⟩ = some (.int .u8 (f.names.getD i 0))
  vs : f.vn = 0 ∨ ∃ b o, f.vp = some ⟨b, o, none⟩ ∧ b < B ∧ ∀ i, i < f.vn → w.cell? ⟨b, o + i, none⟩ = some (.int .i64 (f.vals.getD i 0))

theorem FrOk.on {B : Nat} {w w' : World} {f : Fr} (h : FrOk B w f) (hb : Below B w w') : FrOk B w' f where
  nl := h.nl
  vl := h.vl
  nm := h.nm
  vm := h.vm
  nb := h.nb
  ns := by
    rcases h.ns with h0 | ⟨b, o, h1, h2, h3⟩
    · exact .inl h0
    · exact .inr ⟨b, o, h1, h2, fun i hi => (hb.cell (p := ⟨b, o + i, none⟩) h2).trans (h3 i hi)⟩
  vs := by
    rcases h.vs with h0 | ⟨b, o, h1, h2, h3⟩
    · exact .inl h0
    · exact .inr ⟨b, o, h1, h2, fun i hi => (hb.cell (p := ⟨b, o + i, none⟩) h2).trans (h3 i hi)⟩

/-- the slice of frames -/
structure Frames (B : Nat) (w : World) (fp : Option Addr) (FS : List Fr) : Prop where
  row : FS.length = 0 ∨ ∃ b o, fp = some ⟨b, o, none⟩ ∧ b < B ∧ ∀ j, (h : j < FS.length) → w.cell? ⟨b, o + j * 3, none⟩ = some (.slice FS[j].np FS[j].nn FS[j].nc) ∧
    w.cell? ⟨b, o + j * 3 + 1, none⟩ = some (.slice FS[j].vp FS[j].vn FS[j].vc) ∧ w.cell? ⟨b, o + j * 3 + 2, none⟩ = some (.bool FS[j].ix)
  each : ∀ f ∈ FS, FrOk B w f

theorem Frames.on {B : Nat} {w w' : World} {fp : Option Addr} {FS : List Fr} (h : Frames B w fp FS) (hb : Below B w w') : Frames B w' fp FS where
  row := by
    rcases h.row with h0 | ⟨b, o, h1, h2, h3⟩
    · exact .inl h0
    · exact .inr ⟨b, o, h1, h2, fun j hj => ⟨(hb.cell (p := ⟨b, o + j * 3, none⟩) h2).trans (h3 j hj).1, (hb.cell (p := ⟨b, o + j * 3 + 1, none⟩) h2).trans (h3 j hj).2.1, (hb.cell (p := ⟨b, o + j * 3 + 2, none⟩) h2).trans (h3 j hj).2.2⟩⟩
  each := fun f hf => (h.each f hf).on hb

set_option maxHeartbeats 1000000 in
set_option maxRecDepth 100000 in
theorem eq_same (o : Option Int) (w : World) : Calls Yba.prog 9 #[val3 o, val3 o] w fun e w' => e = .returned (.bool true) ∧ Below w.heap.size w w' := by
  cases o with
  | some x =>
    simp only [val3]
    go_enter Yba.func9, Yba.ntmps9
    go_wp2
    go_ret
    exact ⟨rfl, ((Below.refl _ _).alloc (Nat.le_refl _) _).alloc (by simp) _⟩
  | none =>
    simp only [val3]
    go_enter Yba.func9, Yba.ntmps9
    go_wp2
    go_ret
    exact ⟨rfl, ((Below.refl _ _).alloc (Nat.le_refl _) _).alloc (by simp) _⟩

/-- the law's own bound -/
def small (FS : List Fr) : Prop := FS.length ≤ 256 ∧ ∀ f ∈ FS, f.nn ≤ 256

/-- the check's answer, said so that no tactic opens it -/
structure OkAns (FS : List Fr) (e : Ending) (w w' : World) : Prop where
  ans : ∃ r : Bool, e = .returned (.bool r) ∧ w = w' ∧ (r = true → small FS)

set_option maxHeartbeats 2000000 in
set_option maxRecDepth 100000 in
theorem ok_any (B : Nat) (w : World) (fp : Option Addr) (n fc : Nat) (FS : List Fr) (hn : FS.length = n) (hm : n ≤ 9223372036854775807) (hF : Frames B w fp FS) :
    Calls Yba.prog 5 #[.slice fp n fc] w fun e w' => OkAns FS e w w' := by
  by_cases hbig : (256 : Int) < (n : Int)
  · go_enter Yba.func5, Yba.ntmps5
    go_wp2
    go_ret
    exact ⟨⟨false, rfl, rfl, fun h => by cases h⟩⟩
  · go_enter Yba.func5, Yba.ntmps5
    go_wp2
    go_loop [3] (fun i => ∃ j : Nat, j ≤ n ∧ i = .int .i64 (j : Int) ∧ Hid (∀ l, (h : l < FS.length) → l < j → FS[l].nn ≤ 256)) (fun i => n - (RowKit.intOf i).toNat)
    case atStart => exact ⟨0, Nat.zero_le _, rfl, fun l _ hl => by omega⟩
    case round =>
      obtain ⟨j, hj, rfl, HJ⟩ := hrel
      by_cases hlt : j < n
      · have hjl : j < FS.length := by omega
        rcases hF.row with h0 | ⟨b, o, hfp, hb, hc⟩
        · omega
        · have hc0 := (hc j hjl).1
          have hfm := (hF.each FS[j] (List.getElem_mem hjl)).nm
          clear hc
          by_cases hbj : (256 : Int) < (FS[j].nn : Int)
          · go_wp2
            go_ret
            exact ⟨⟨false, rfl, rfl, fun h => by cases h⟩⟩
          · go_wp2
            go_round
            case rel =>
              refine ⟨j + 1, by omega, by go_num, fun l hl hlj => ?_⟩
              by_cases e : l = j
              · subst e; omega
              · exact HJ.out l hl (by omega)
            case measure => simp [RowKit.intOf]; omega
      · go_wp2
        go_ret
        refine ⟨⟨true, rfl, rfl, fun _ => ⟨by omega, fun f hf => ?_⟩⟩⟩
        obtain ⟨l, hl, rfl⟩ := List.getElem_of_mem hf
        exact HJ.out l hl (by omega)

end Go.Proofs.Ybulkime
