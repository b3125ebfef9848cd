/-
  THE CHAIN OF SCOPES IN MEMORY, AND THE WALK OF (*scope).slot OVER IT.
-/
import Derived.Test.YbulkimePlain
import Derived.Deep.LoopGhost
namespace Go.Proofs.Ybulkime
open Go.RowKit
open Go.ChangeMaps (setBlock)

/-- the four symbols -/
def Syms (w : World) (Y : Nat) (vl : Nat → Int) (bd lc : Nat → Bool) : Prop :=
  ∀ k, k < 4 → w.heap[Y + k]? = some (.cells #[.string ⟨#[119]⟩, .int .u8 2, .int .i64 (vl k), .nilIface, .bool (bd k), .bool (lc k), .int .u32 0] 46 (0, 0))

theorem Syms.inn {w : World} {Y : Nat} {vl : Nat → Int} {bd lc : Nat → Bool} (h : Syms w Y vl bd lc) : SymsIn w Y := fun k hk => ⟨_, h k hk⟩

/-- the row of a scope's names -/
def NameRow (w : World) (Y gn n : Nat) (f : Fr) : Prop := ∃ cs : Array Value, w.heap[gn]? = some (.cells cs 35 (0, 0)) ∧ ∀ i, i < n → cs[i]? = some (.pointer (some ⟨Y + f.sym i, 0, none⟩))

/-- the row of a scope's values -/
def ValRow (w : World) (gv n : Nat) (f : Fr) : Prop := ∃ cs : Array Value, w.heap[gv]? = some (.cells cs 32 (0, 0)) ∧ ∀ i, i < n → cs[i * 3]? = some (.int .u8 2) ∧ cs[i * 3 + 1]? = some (.int .i64 (f.val i)) ∧ cs[i * 3 + 2]? = some .nilIface

/-- a scope's index: none, or a map of the last places -/
def Index (w : World) (Y : Nat) (f : Fr) (m : Option Nat) : Prop :=
  (f.ix = false ∧ m = none) ∨ ∃ bm M, f.ix = true ∧ m = some bm ∧ MapHas w Y bm M ∧ ∀ k, k < 4 → look k M = lastAt f k f.nn

/-- block b is the scope of frame f, its parent block q -/
def Scope (w : World) (Y : Nat) (f : Fr) (b q : Nat) : Prop :=
  ∃ gn gv m, w.heap[b]? = some (.cells #[.pointer (some ⟨q, 0, none⟩), .slice (some ⟨gn, 0, none⟩) f.nn f.nn, .slice (some ⟨gv, 0, none⟩) f.nn f.nn, .map m, .bool false] 50 (0, 0)) ∧
    NameRow w Y gn f.nn f ∧ ValRow w gv f.nn f ∧ Index w Y f m

/-- the chain, the innermost scope first; the top level last -/
def Chain (w : World) (Y : Nat) : List Fr → Nat → Prop
  | [], b => w.heap[b]? = some (.cells #[.pointer none, .slice none 0 0, .slice none 0 0, .map none, .bool false] 50 (0, 0))
  | f :: fs, b => ∃ q, Scope w Y f b q ∧ Chain w Y fs q

/-- what slot answers: where the nearest binding holds its value -/
def SlotIs (w : World) (Y k : Nat) (bd : Nat → Bool) (fs : List Fr) (q : Option Addr) : Prop :=
  (∃ x g o, find k fs = some x ∧ q = some ⟨g, o, none⟩ ∧ w.cell? ⟨g, o, none⟩ = some (.int .u8 2) ∧ w.cell? ⟨g, o + 1, none⟩ = some (.int .i64 x) ∧ w.cell? ⟨g, o + 2, none⟩ = some .nilIface) ∨
  (find k fs = none ∧ bd k = true ∧ q = some ⟨Y + k, 1, none⟩) ∨ (find k fs = none ∧ bd k = false ∧ q = none)

theorem NameRow.cell {w : World} {Y gn n : Nat} {f : Fr} (h : NameRow w Y gn n f) (i : Nat) (hi : i < n) : w.cell? ⟨gn, i, none⟩ = some (.pointer (some ⟨Y + f.sym i, 0, none⟩)) := by
  obtain ⟨cs, h1, h2⟩ := h
  rw [cell_of_row w gn i cs 35 (0, 0) h1]
  exact h2 i hi

theorem ValRow.cells {w : World} {gv n : Nat} {f : Fr} (h : ValRow w gv n f) (i : Nat) (hi : i < n) :
    w.cell? ⟨gv, i * 3, none⟩ = some (.int .u8 2) ∧ w.cell? ⟨gv, i * 3 + 1, none⟩ = some (.int .i64 (f.val i)) ∧ w.cell? ⟨gv, i * 3 + 2, none⟩ = some .nilIface := by
  obtain ⟨cs, h1, h2⟩ := h
  rw [cell_of_row w gv _ cs 32 (0, 0) h1, cell_of_row w gv _ cs 32 (0, 0) h1, cell_of_row w gv _ cs 32 (0, 0) h1]
  exact h2 i hi

set_option maxHeartbeats 4000000 in
set_option maxRecDepth 100000 in
theorem slot_any (w : World) (Y k : Nat) (vl : Nat → Int) (bd lc : Nat → Bool) (hk : k < 4) (hS : Syms w Y vl bd lc) (FS : List Fr) (hn : ∀ f ∈ FS, f.nn ≤ 1000000) (b0 : Nat) (hC : Chain w Y FS b0) :
    Calls Yba.prog 12 #[.pointer (some ⟨b0, 0, none⟩), .pointer (some ⟨Y + k, 0, none⟩)] w fun e w' => ∃ q, e = .returned (.pointer q) ∧ w = w' ∧ SlotIs w Y k bd FS q := by
  have s4 : w.cell? ⟨Y + k, 4, none⟩ = some (.bool (bd k)) := by rw [cell_of_row w _ 4 _ _ _ (hS k hk)]; rfl
  have HS : Hid (Syms w Y vl bd lc) := hS
  clear hS
  have hmn : ∀ (m : Option Nat) (w : World), (binOp .neq 48 (.map m) (.map none)).run Yba.prog w = .ok (.bool (!m.isNone)) w := fun m w => run_neq_map_nil w 48 35 3 m Yba.underlying48
  go_enter Yba.func12, Yba.ntmps12
  go_wp2
  go_loopg [0] FS.length (fun n p wr => ∃ fs b, p = .pointer (some ⟨b, 0, none⟩) ∧ n = fs.length ∧ wr = w ∧ Chain w Y fs b ∧ find k FS = find k fs ∧ ∀ f ∈ fs, f.nn ≤ 1000000)
  case atStart => exact ⟨FS, b0, rfl, rfl, rfl, hC, rfl, hn⟩
  case round =>
    obtain ⟨fs, b, rfl, hgk, rfl, hCh, hfe, hnn⟩ := hrel
    cases fs with
    | nil =>
      have hb : wr.heap[b]? = some (.cells #[.pointer none, .slice none 0 0, .slice none 0 0, .map none, .bool false] 50 (0, 0)) := hCh
      have p0 : wr.cell? ⟨b, 0, none⟩ = some (.pointer none) := by rw [cell_of_row wr _ 0 _ _ _ hb]; rfl
      have HFE : Hid (find k FS = none) := hfe
      clear hb hCh hfe hgk
      by_cases hbd : bd k = true
      · go_wp2
        go_ret
        exact ⟨_, rfl, rfl, .inr (.inl ⟨HFE.out, hbd, rfl⟩)⟩
      · have hbf : bd k = false := by simpa using hbd
        clear hbd
        go_wp2
        go_ret
        exact ⟨_, rfl, rfl, .inr (.inr ⟨HFE.out, hbf, rfl⟩)⟩
    | cons f fs =>
      obtain ⟨q, ⟨gn, gv, m, hb, hN, hV, hI⟩, hCq⟩ := hCh
      have p0 : wr.cell? ⟨b, 0, none⟩ = some (.pointer (some ⟨q, 0, none⟩)) := by rw [cell_of_row wr _ 0 _ _ _ hb]; rfl
      have p1 : wr.cell? ⟨b, 1, none⟩ = some (.slice (some ⟨gn, 0, none⟩) f.nn f.nn) := by rw [cell_of_row wr _ 1 _ _ _ hb]; rfl
      have p2 : wr.cell? ⟨b, 2, none⟩ = some (.slice (some ⟨gv, 0, none⟩) f.nn f.nn) := by rw [cell_of_row wr _ 2 _ _ _ hb]; rfl
      have p3 : wr.cell? ⟨b, 3, none⟩ = some (.map m) := by rw [cell_of_row wr _ 3 _ _ _ hb]; rfl
      have hfn : f.nn ≤ 1000000 := hnn f (by simp)
      have hnn' : ∀ f ∈ fs, f.nn ≤ 1000000 := fun x hx => hnn x (by simp [hx])
      have HFE : Hid (find k FS = find k (f :: fs)) := hfe
      have HN : Hid (NameRow wr Y gn f.nn f) := hN
      have HV : Hid (ValRow wr gv f.nn f) := hV
      have HCq : Hid (Chain wr Y fs q) := hCq
      have HNN : Hid (∀ f ∈ fs, f.nn ≤ 1000000) := hnn'
      have HGK : Hid (gk = fs.length + 1) := by rw [hgk]; rfl
      clear hfe hN hV hCq hnn hnn' hgk hb
      rcases hI with ⟨hix, rfl⟩ | ⟨bm, M, hix, rfl, hM, hlk⟩
      · -- no index: the names are searched from the last
        clear hix
        go_wp2
        go_loopg [7] f.nn (fun t p wq => ∃ t' : Nat, t = t' ∧ t' ≤ f.nn ∧ p = .int .i64 ((t' : Int) - 1) ∧ wq = wr ∧ lastAt f k f.nn = lastAt f k t')
        case atStart => exact ⟨f.nn, rfl, Nat.le_refl _, rfl, rfl, rfl⟩
        case round =>
          obtain ⟨t, rfl, ht, rfl, rfl, hla⟩ := hrel
          have HLA : Hid (lastAt f k f.nn = lastAt f k gk) := hla
          clear hla
          cases gk with
          | zero =>
            go_wp2
            go_roundg fs.length
            case measure => have := HGK.out; omega
            case rel => exact ⟨fs, q, rfl, rfl, rfl, HCq.out, HFE.out.trans (find_miss HLA.out), HNN.out⟩
          | succ t =>
            have hcx := HN.out.cell t (by omega)
            have e1 : (((t + 1 : Nat) : Int) - 1) = (t : Int) := by omega
            have hti : (t : Int) < (f.nn : Int) := by omega
            by_cases hsk : f.sym t = k
            · have he : (binOp .eql 35 (.pointer (some ⟨Y + f.sym t, 0, none⟩)) (.pointer (some ⟨Y + k, 0, none⟩))).run Yba.prog wr = .ok (.bool true) wr := by
                have := eql35 HS.out.inn (sym_lt f t) hk
                rw [decide_eq_true hsk] at this
                exact this
              have HLB : Hid (lastAt f k f.nn = some t) := by
                show _ = _
                rw [HLA.out]
                simp only [lastAt, if_pos hsk]
              have HSK : Hid (f.sym t = k) := hsk
              clear hsk
              go_wp2
              go_ret
              obtain ⟨a1, a2, a3⟩ := HV.out.cells t (by omega)
              exact ⟨_, rfl, rfl, .inl ⟨f.val t, gv, t * 3, HFE.out.trans (find_hit HLB.out), rfl, a1, a2, a3⟩⟩
            · have he : (binOp .eql 35 (.pointer (some ⟨Y + f.sym t, 0, none⟩)) (.pointer (some ⟨Y + k, 0, none⟩))).run Yba.prog wr = .ok (.bool false) wr := by
                have := eql35 HS.out.inn (sym_lt f t) hk
                rw [decide_eq_false hsk] at this
                exact this
              have HLB : Hid (lastAt f k f.nn = lastAt f k t) := by
                show _ = _
                rw [HLA.out]
                simp only [lastAt, if_neg hsk]
              clear hsk
              go_wp2
              go_roundg t
              case measure => omega
              case rel => exact ⟨t, rfl, by omega, by go_num, rfl, HLB.out⟩
      · -- an index: the map is asked
        clear hix
        have hlu := lookup_run HS.out.inn hM hk
        rw [hlk k hk] at hlu
        unfold ptr at hlu
        cases hla : lastAt f k f.nn with
        | some i =>
          have hi : i < f.nn := lastAt_lt f k _ i hla
          have hii : (i : Int) < (f.nn : Int) := by omega
          rw [hla] at hlu
          have hlu' : (Instr.lookup 48 (.map (some bm)) (.pointer (some ⟨Y + k, 0, none⟩)) true).run Yba.prog wr = .ok (.tuple #[.int .i64 (i : Int), .bool true]) wr := hlu
          have HLA : Hid (lastAt f k f.nn = some i) := hla
          clear hlu hla hlk hM
          go_wp2
          go_ret
          obtain ⟨a1, a2, a3⟩ := HV.out.cells i hi
          exact ⟨_, rfl, rfl, .inl ⟨f.val i, gv, i * 3, HFE.out.trans (find_hit HLA.out), rfl, a1, a2, a3⟩⟩
        | none =>
          rw [hla] at hlu
          have hlu' : (Instr.lookup 48 (.map (some bm)) (.pointer (some ⟨Y + k, 0, none⟩)) true).run Yba.prog wr = .ok (.tuple #[.int .i64 0, .bool false]) wr := hlu
          have HLA : Hid (lastAt f k f.nn = none) := hla
          clear hlu hla hlk hM
          go_wp2
          go_roundg fs.length
          case measure => have := HGK.out; omega
          case rel => exact ⟨fs, q, rfl, rfl, rfl, HCq.out, HFE.out.trans (find_miss HLA.out), HNN.out⟩

end Go.Proofs.Ybulkime
