/-
  WHAT zzs0459abuild LAYS: the plain part.
-/
import Derived.Test.YbulkimeFrames
import Derived.Laws.MakeOwn
namespace Go.Proofs.Ybulkime
open Go.RowKit
open Go.ChangeMaps (setBlock)

/-- the flags and the values as they came -/
def flagsV (fl : Nat → Int) : Value := .agg #[.int .u8 (fl 0), .int .u8 (fl 1), .int .u8 (fl 2), .int .u8 (fl 3)]
def valsV (vl : Nat → Int) : Value := .agg #[.int .i64 (vl 0), .int .i64 (vl 1), .int .i64 (vl 2), .int .i64 (vl 3)]

/-- a symbol is bound; a symbol has been local -/
def bdF (fl : Nat → Int) (k : Nat) : Bool := bits BinOp.and IntKind.u8 (fl k) 1 != 0
def lcF (fl : Nat → Int) (k : Nat) : Bool := bits BinOp.and IntKind.u8 (fl k) 2 != 0

theorem set_same {w : World} {b : Nat} {cs : Array Value} {t : TypeId} {f : Nat × Nat} (h : w.heap[b]? = some (.cells cs t f)) (k : Nat) (x : Value) :
    (w.setCell ⟨b, k, none⟩ x).heap[b]? = some (.cells (cs.setIfInBounds k x) t f) := by
  simp [World.setCell, Array.getElem?_modify, h]

theorem set_other {w : World} {b c : Nat} (h : b ≠ c) (k : Nat) (x : Value) : (w.setCell ⟨b, k, none⟩ x).heap[c]? = w.heap[c]? := by
  simp [World.setCell, Array.getElem?_modify, h]

theorem set_size (w : World) (b k : Nat) (x : Value) : (w.setCell ⟨b, k, none⟩ x).heap.size = w.heap.size := by
  simp [World.setCell]

theorem alloc_old {w : World} {c : Nat} {o : Obj} (h : w.heap[c]? = some o) (o' : Obj) : (w.alloc o').heap[c]? = some o := heap_on (below1 w o') h
theorem alloc_new (w : World) (o : Obj) : (w.alloc o).heap[w.heap.size]? = some o := (MapKept.heap_alloc w o).1
theorem alloc_size (w : World) (o : Obj) : (w.alloc o).heap.size = w.heap.size + 1 := by simp

/-- a row of cells that may be read and written -/
theorem cell_row {w : World} {b : Nat} {cs : Array Value} {t : TypeId} (h : w.heap[b]? = some (.cells cs t (0, 0))) (k : Nat) : w.cell? ⟨b, k, none⟩ = cs[k]? :=
  cell_of_row w b k cs t (0, 0) h

/-- the row of pointers to the symbols, its first k -/
def RowY (w : World) (g Y k : Nat) : Prop := ∃ cs : Array Value, w.heap[g]? = some (.cells cs 35 (0, 0)) ∧ cs.size = 4 ∧ ∀ i, i < k → cs[i]? = some (.pointer (some ⟨Y + i, 0, none⟩))

/-- a symbol's block -/
def symObj (fl vl : Nat → Int) (k : Nat) : Obj := .cells #[.string ⟨#[119]⟩, .int .u8 2, .int .i64 (vl k), .nilIface, .bool (bdF fl k), .bool (lcF fl k), .int .u32 0] 46 (0, 0)

/-- what the walk of the first loop has laid behind k rounds -/
structure Laid (w0 : World) (N : Nat) (fl vl : Nat → Int) (w : World) (k : Nat) : Prop where
  bel : Below N w0 w
  sz : w.heap.size = N + 1 + 1 + 1 + k
  fb : w.heap[N]? = some (.cells #[.int .u8 (fl 0), .int .u8 (fl 1), .int .u8 (fl 2), .int .u8 (fl 3)] 22 (0, 0))
  vb : w.heap[N + 1]? = some (.cells #[.int .i64 (vl 0), .int .i64 (vl 1), .int .i64 (vl 2), .int .i64 (vl 3)] 23 (0, 0))
  row : RowY w (N + 1 + 1) (N + 1 + 1 + 1) k
  syms : ∀ i, i < k → w.heap[N + 1 + 1 + 1 + i]? = some (symObj fl vl i)

/-- what the walk of the second loop has laid behind j frames -/
structure Built (w0 : World) (N : Nat) (fl vl : Nat → Int) (FS : List Fr) (w : World) (j b : Nat) : Prop where
  bel : Below N w0 w
  big : N + 7 ≤ w.heap.size
  row : RowY w (N + 1 + 1) (N + 1 + 1 + 1) 4
  syms : Syms w (N + 1 + 1 + 1) vl (bdF fl) (lcF fl)
  chain : Chain w (N + 1 + 1 + 1) (FS.take j).reverse b

/-- what the walk of one frame has laid behind i names: the frame's copy, the scope, the names, the values -/
structure Mid (w0 : World) (Y : Nat) (f : Fr) (b : Nat) (w : World) (i : Nat) : Prop where
  bel : Below w0.heap.size w0 w
  sz : w.heap.size = w0.heap.size + 1 + 1 + 1 + 1
  fb : w.heap[w0.heap.size]? = some (.cells #[.slice f.np f.nn f.nc, .slice f.vp f.vn f.vc, .bool f.ix] 43 (0, 0))
  cb : w.heap[w0.heap.size + 1]? = some (.cells #[.pointer (some ⟨b, 0, none⟩), .slice (some ⟨w0.heap.size + 1 + 1, 0, none⟩) f.nn f.nn, .slice (some ⟨w0.heap.size + 1 + 1 + 1, 0, none⟩) f.nn f.nn, .map none, .bool false] 50 (0, 0))
  nr : ∃ cs : Array Value, w.heap[w0.heap.size + 1 + 1]? = some (.cells cs 35 (0, 0)) ∧ cs.size = f.nn ∧ ∀ l, l < i → cs[l]? = some (.pointer (some ⟨Y + f.sym l, 0, none⟩))
  vr : ∃ cs : Array Value, w.heap[w0.heap.size + 1 + 1 + 1]? = some (.cells cs 32 (0, 0)) ∧ cs.size = f.nn * 3 ∧
    ∀ l, l < i → cs[l * 3]? = some (.int .u8 2) ∧ cs[l * 3 + 1]? = some (.int .i64 (f.val l)) ∧ cs[l * 3 + 2]? = some .nilIface

theorem getD4 (c : Nat → Value) (k : Nat) (hk : k < 4) : (#[c 0, c 1, c 2, c 3] : Array Value)[k]? = some (c k) := by
  match k, hk with
  | 0, _ => rfl
  | 1, _ => rfl
  | 2, _ => rfl
  | 3, _ => rfl

theorem Laid.c0 {w0 w : World} {N k : Nat} {fl vl : Nat → Int} (h : Laid w0 N fl vl w k) (i : Nat) (hi : i < 4) : w.cell? ⟨N, i, none⟩ = some (.int .u8 (fl i)) := by
  rw [cell_row h.fb]
  exact getD4 (fun i => .int .u8 (fl i)) i hi
theorem Laid.c1 {w0 w : World} {N k : Nat} {fl vl : Nat → Int} (h : Laid w0 N fl vl w k) (i : Nat) (hi : i < 4) : w.cell? ⟨N + 1, i, none⟩ = some (.int .i64 (vl i)) := by
  rw [cell_row h.vb]
  exact getD4 (fun i => .int .i64 (vl i)) i hi
theorem RowY.there {w : World} {g Y k : Nat} (h : RowY w g Y k) (i : Nat) (hi : i < 4) : (∃ x, w.cell? ⟨g, i, none⟩ = some x) ∧ w.frozen? ⟨g, i, none⟩ = false := by
  obtain ⟨cs, h1, h2, _⟩ := h
  refine ⟨⟨cs[i], ?_⟩, frozen_of_row w _ i _ _ h1⟩
  rw [cell_row h1]
  exact Array.getElem?_eq_some_iff.2 ⟨by omega, rfl⟩

theorem Laid.next {w0 w : World} {N k : Nat} {fl vl : Nat → Int} (h : Laid w0 N fl vl w k) (hk : k < 4) :
    Laid w0 N fl vl ((w.setCell ⟨N + 1 + 1, k, none⟩ (.pointer (some ⟨w.heap.size, 0, none⟩))).alloc (symObj fl vl k)).drew (k + 1) := by
  have hs := h.sz
  refine ⟨?_, ?_, ?_, ?_, ?_, ?_⟩
  · exact ((h.bel.setCell (by show N ≤ N + 1 + 1; omega) _).alloc (by rw [set_size]; omega) _).drew
  · show ((w.setCell _ _).alloc _).heap.size = _
    rw [alloc_size, set_size, hs]
    omega
  · exact alloc_old ((set_other (by omega) _ _).trans h.fb) _
  · exact alloc_old ((set_other (by omega) _ _).trans h.vb) _
  · obtain ⟨cs, h1, h2, h3⟩ := h.row
    refine ⟨_, alloc_old (set_same h1 k _) _, by simp [h2], fun i hi => ?_⟩
    by_cases e : i = k
    · subst e
      rw [hs]
      simp [h2, hk]
    · rw [Array.getElem?_setIfInBounds_ne (by omega)]
      exact h3 i (by omega)
  · intro i hi
    by_cases e : i = k
    · subst e
      have := alloc_new (w.setCell ⟨N + 1 + 1, i, none⟩ (.pointer (some ⟨w.heap.size, 0, none⟩))) (symObj fl vl i)
      rw [set_size, hs] at this
      rw [← hs] at this
      rw [← hs]
      exact this
    · exact alloc_old ((set_other (by omega) _ _).trans (h.syms i (by omega))) _

theorem mk4 (w : World) : (Instr.makeSlice 26 (.int .i64 4) (.int .i64 4)).run Yba.prog w = .ok (.slice (some ⟨w.heap.size, 0, none⟩) 4 4) (w.alloc (.cells #[.pointer none, .pointer none, .pointer none, .pointer none] 35)) := by kernel_rfl

theorem info35 : ∃ i z, Yba.prog.info? 35 = some i ∧ i.zero = some z ∧ i.size = 1 ∧ i.bytes = 8 := by
  have h : (Yba.prog.info? 35).map (fun i => (i.zero.isSome, i.size, i.bytes)) = some (true, 1, 8) := by kernel_rfl
  cases hi : Yba.prog.info? 35 with
  | none => rw [hi] at h; cases h
  | some i =>
    rw [hi] at h
    simp at h
    obtain ⟨z, hz⟩ := Option.isSome_iff_exists.1 h.1
    exact ⟨i, z, rfl, hz, h.2.1, h.2.2⟩

theorem info32 : ∃ i z, Yba.prog.info? 32 = some i ∧ i.zero = some z ∧ i.size = 3 ∧ i.bytes ≤ 64 := by
  have h : (Yba.prog.info? 32).map (fun i => (i.zero.isSome, i.size, decide (i.bytes ≤ 64))) = some (true, 3, true) := by kernel_rfl
  cases hi : Yba.prog.info? 32 with
  | none => rw [hi] at h; cases h
  | some i =>
    rw [hi] at h
    simp at h
    obtain ⟨z, hz⟩ := Option.isSome_iff_exists.1 h.1
    exact ⟨i, z, rfl, hz, h.2.1, h.2.2⟩

theorem mk26 (n : Nat) (hn : n ≤ 256) : ∃ cs : Array Value, cs.size = n ∧ ∀ w : World, (Instr.makeSlice 26 (.int .i64 (n : Int)) (.int .i64 (n : Int))).run Yba.prog w = .ok (.slice (some ⟨w.heap.size, 0, none⟩) n n) (w.alloc (.cells cs 35)) := by
  obtain ⟨i, z, hi, hz, h1, h8⟩ := info35
  refine ⟨madeCells z.cells n, size_madeCells _ _, fun w => ?_⟩
  have hr := run_make (P := Yba.prog) w 26 35 i z Yba.underlying26 hi hz .i64 .i64 n n (by omega) (Int.le_refl _) (by rw [h8]; omega) (by omega)
  rw [h1] at hr
  simpa using hr

theorem mk47 (n : Nat) (hn : n ≤ 256) : ∃ cs : Array Value, cs.size = n * 3 ∧ ∀ w : World, (Instr.makeSlice 47 (.int .i64 (n : Int)) (.int .i64 (n : Int))).run Yba.prog w = .ok (.slice (some ⟨w.heap.size, 0, none⟩) n n) (w.alloc (.cells cs 32)) := by
  obtain ⟨i, z, hi, hz, h1, h8⟩ := info32
  refine ⟨madeCells z.cells (n * 3), size_madeCells _ _, fun w => ?_⟩
  have hb : (i.bytes : Int) * (n : Int) ≤ 281474976710656 := by
    have : i.bytes * n ≤ 64 * 256 := Nat.mul_le_mul h8 hn
    have h2 : ((i.bytes * n : Nat) : Int) ≤ 281474976710656 := by omega
    rwa [Int.natCast_mul] at h2
  have hr := run_make (P := Yba.prog) w 47 32 i z Yba.underlying47 hi hz .i64 .i64 n n (by omega) (Int.le_refl _) hb (by omega)
  rw [h1] at hr
  simpa using hr

theorem Mid.start (w0 : World) (Y : Nat) (f : Fr) (b : Nat) (csn csv : Array Value) (hn : csn.size = f.nn) (hv : csv.size = f.nn * 3) :
    Mid w0 Y f b ((((w0.alloc (.cells #[.slice f.np f.nn f.nc, .slice f.vp f.vn f.vc, .bool f.ix] 43)).alloc (.cells #[.pointer (some ⟨b, 0, none⟩), .slice (some ⟨w0.heap.size + 1 + 1, 0, none⟩) f.nn f.nn, .slice (some ⟨w0.heap.size + 1 + 1 + 1, 0, none⟩) f.nn f.nn, .map none, .bool false] 50)).alloc (.cells csn 35)).alloc (.cells csv 32)) 0 := by
  refine ⟨?_, ?_, ?_, ?_, ⟨csn, ?_, hn, fun l hl => by omega⟩, ⟨csv, ?_, hv, fun l hl => by omega⟩⟩
  · exact ((((Below.refl _ _).alloc (Nat.le_refl _) _).alloc (by simp) _).alloc (by simp; omega) _).alloc (by simp; omega) _
  · rw [alloc_size, alloc_size, alloc_size, alloc_size]
  · exact alloc_old (alloc_old (alloc_old (alloc_new w0 _) _) _) _
  · refine alloc_old (alloc_old ?_ _) _
    have := alloc_new (w0.alloc (.cells #[.slice f.np f.nn f.nc, .slice f.vp f.vn f.vc, .bool f.ix] 43)) (.cells #[.pointer (some ⟨b, 0, none⟩), .slice (some ⟨w0.heap.size + 1 + 1, 0, none⟩) f.nn f.nn, .slice (some ⟨w0.heap.size + 1 + 1 + 1, 0, none⟩) f.nn f.nn, .map none, .bool false] 50)
    rw [alloc_size] at this
    exact this
  · refine alloc_old ?_ _
    have := alloc_new ((w0.alloc (.cells #[.slice f.np f.nn f.nc, .slice f.vp f.vn f.vc, .bool f.ix] 43)).alloc (.cells #[.pointer (some ⟨b, 0, none⟩), .slice (some ⟨w0.heap.size + 1 + 1, 0, none⟩) f.nn f.nn, .slice (some ⟨w0.heap.size + 1 + 1 + 1, 0, none⟩) f.nn f.nn, .map none, .bool false] 50)) (.cells csn 35)
    rw [alloc_size, alloc_size] at this
    exact this
  · have := alloc_new (((w0.alloc (.cells #[.slice f.np f.nn f.nc, .slice f.vp f.vn f.vc, .bool f.ix] 43)).alloc (.cells #[.pointer (some ⟨b, 0, none⟩), .slice (some ⟨w0.heap.size + 1 + 1, 0, none⟩) f.nn f.nn, .slice (some ⟨w0.heap.size + 1 + 1 + 1, 0, none⟩) f.nn f.nn, .map none, .bool false] 50)).alloc (.cells csn 35)) (.cells csv 32)
    rw [alloc_size, alloc_size, alloc_size] at this
    exact this

theorem Laid.built {w0 w : World} {N : Nat} {fl vl : Nat → Int} (FS : List Fr) (h : Laid w0 N fl vl w 4) :
    Built w0 N fl vl FS (w.alloc (.cells #[.pointer none, .slice none 0 0, .slice none 0 0, .map none, .bool false] 50)) 0 w.heap.size where
  bel := h.bel.alloc (by rw [h.sz]; omega) _
  big := by rw [alloc_size, h.sz]; omega
  row := by
    obtain ⟨cs, h1, h2, h3⟩ := h.row
    exact ⟨cs, alloc_old h1 _, h2, h3⟩
  syms := fun k hk => alloc_old (h.syms k hk) _
  chain := alloc_new w _

theorem Built.on {w0 w w' : World} {N j b : Nat} {fl vl : Nat → Int} {FS : List Fr} (h : Built w0 N fl vl FS w j b) (hb : Below w.heap.size w w') : Built w0 N fl vl FS w' j b where
  bel := h.bel.trans (hb.mono (by have := h.big; omega))
  big := by
    have := h.big
    have h2 := hb.size
    omega
  row := by
    obtain ⟨cs, h1, h2, h3⟩ := h.row
    exact ⟨cs, heap_on hb h1, h2, h3⟩
  syms := h.syms.on hb
  chain := Chain.on hb h.chain

/-- the cells of one frame's blocks -/
theorem Mid.cells {w0 w : World} {Y b i : Nat} {f : Fr} (h : Mid w0 Y f b w i) :
    w.cell? ⟨w0.heap.size, 0, none⟩ = some (.slice f.np f.nn f.nc) ∧ w.cell? ⟨w0.heap.size, 1, none⟩ = some (.slice f.vp f.vn f.vc) ∧ w.cell? ⟨w0.heap.size, 2, none⟩ = some (.bool f.ix) ∧
    w.cell? ⟨w0.heap.size + 1, 1, none⟩ = some (.slice (some ⟨w0.heap.size + 1 + 1, 0, none⟩) f.nn f.nn) ∧ w.cell? ⟨w0.heap.size + 1, 2, none⟩ = some (.slice (some ⟨w0.heap.size + 1 + 1 + 1, 0, none⟩) f.nn f.nn) ∧
    w.cell? ⟨w0.heap.size + 1, 3, none⟩ = some (.map none) ∧ w.frozen? ⟨w0.heap.size + 1, 3, none⟩ = false := by
  refine ⟨?_, ?_, ?_, ?_, ?_, ?_, frozen_of_row w _ 3 _ _ h.cb⟩
  · rw [cell_row h.fb]; rfl
  · rw [cell_row h.fb]; rfl
  · rw [cell_row h.fb]; rfl
  · rw [cell_row h.cb]; rfl
  · rw [cell_row h.cb]; rfl
  · rw [cell_row h.cb]; rfl

theorem Mid.name {w0 w : World} {Y b i : Nat} {f : Fr} (h : Mid w0 Y f b w i) (l : Nat) (hl : l < f.nn) : (∃ x, w.cell? ⟨w0.heap.size + 1 + 1, l, none⟩ = some x) ∧ w.frozen? ⟨w0.heap.size + 1 + 1, l, none⟩ = false := by
  obtain ⟨cs, h1, h2, _⟩ := h.nr
  refine ⟨⟨cs[l], ?_⟩, frozen_of_row w _ l _ _ h1⟩
  rw [cell_row h1]
  exact Array.getElem?_eq_some_iff.2 ⟨by omega, rfl⟩

theorem Mid.value {w0 w : World} {Y b i : Nat} {f : Fr} (h : Mid w0 Y f b w i) (l : Nat) (hl : l < f.nn * 3) : (∃ x, w.cell? ⟨w0.heap.size + 1 + 1 + 1, l, none⟩ = some x) ∧ w.frozen? ⟨w0.heap.size + 1 + 1 + 1, l, none⟩ = false := by
  obtain ⟨cs, h1, h2, _⟩ := h.vr
  refine ⟨⟨cs[l], ?_⟩, frozen_of_row w _ l _ _ h1⟩
  rw [cell_row h1]
  exact Array.getElem?_eq_some_iff.2 ⟨by omega, rfl⟩

theorem Mid.next {w0 w : World} {Y b i s : Nat} {f : Fr} {x : Int} (h : Mid w0 Y f b w i) (hi : i < f.nn) (hs : s = f.sym i) (hx : x = f.val i) :
    Mid w0 Y f b ((((w.setCell ⟨w0.heap.size + 1 + 1, i, none⟩ (.pointer (some ⟨Y + s, 0, none⟩))).setCell ⟨w0.heap.size + 1 + 1 + 1, i * 3, none⟩ (.int .u8 2)).setCell ⟨w0.heap.size + 1 + 1 + 1, i * 3 + 1, none⟩ (.int .i64 x)).setCell ⟨w0.heap.size + 1 + 1 + 1, i * 3 + 2, none⟩ .nilIface).drew (i + 1) := by
  subst hs hx
  refine ⟨?_, ?_, ?_, ?_, ?_, ?_⟩
  · exact ((((h.bel.setCell (by show w0.heap.size ≤ w0.heap.size + 1 + 1; omega) _).setCell (by show w0.heap.size ≤ w0.heap.size + 1 + 1 + 1; omega) _).setCell (by show w0.heap.size ≤ w0.heap.size + 1 + 1 + 1; omega) _).setCell (by show w0.heap.size ≤ w0.heap.size + 1 + 1 + 1; omega) _).drew
  · show (World.setCell _ _ _).heap.size = _
    rw [set_size, set_size, set_size, set_size]
    exact h.sz
  · show (World.setCell _ _ _).heap[_]? = _
    rw [set_other (by omega), set_other (by omega), set_other (by omega), set_other (by omega)]
    exact h.fb
  · show (World.setCell _ _ _).heap[_]? = _
    rw [set_other (by omega), set_other (by omega), set_other (by omega), set_other (by omega)]
    exact h.cb
  · obtain ⟨cs, h1, h2, h3⟩ := h.nr
    refine ⟨cs.setIfInBounds i (.pointer (some ⟨Y + f.sym i, 0, none⟩)), ?_, by simp [h2], fun l hl => ?_⟩
    · show (World.setCell _ _ _).heap[_]? = _
      rw [set_other (by omega), set_other (by omega), set_other (by omega)]
      exact set_same h1 _ _
    · by_cases e : l = i
      · subst e
        simp [h2, hi]
      · rw [Array.getElem?_setIfInBounds_ne (by omega)]
        exact h3 l (by omega)
  · obtain ⟨cs, h1, h2, h3⟩ := h.vr
    have h1' : (w.setCell ⟨w0.heap.size + 1 + 1, i, none⟩ (.pointer (some ⟨Y + f.sym i, 0, none⟩))).heap[w0.heap.size + 1 + 1 + 1]? = some (.cells cs 32 (0, 0)) := (set_other (by omega) _ _).trans h1
    refine ⟨_, set_same (set_same (set_same h1' _ _) _ _) _ _, by simp [h2], fun l hl => ?_⟩
    by_cases e : l = i
    · subst e
      refine ⟨?_, ?_, ?_⟩
      · rw [Array.getElem?_setIfInBounds_ne (by omega), Array.getElem?_setIfInBounds_ne (by omega), Array.getElem?_setIfInBounds_self_of_lt (by omega)]
      · rw [Array.getElem?_setIfInBounds_ne (by omega), Array.getElem?_setIfInBounds_self_of_lt (by simp; omega)]
      · rw [Array.getElem?_setIfInBounds_self_of_lt (by simp; omega)]
    · obtain ⟨a1, a2, a3⟩ := h3 l (by omega)
      refine ⟨?_, ?_, ?_⟩
      · rw [Array.getElem?_setIfInBounds_ne (by omega), Array.getElem?_setIfInBounds_ne (by omega), Array.getElem?_setIfInBounds_ne (by omega)]
        exact a1
      · rw [Array.getElem?_setIfInBounds_ne (by omega), Array.getElem?_setIfInBounds_ne (by omega), Array.getElem?_setIfInBounds_ne (by omega)]
        exact a2
      · rw [Array.getElem?_setIfInBounds_ne (by omega), Array.getElem?_setIfInBounds_ne (by omega), Array.getElem?_setIfInBounds_ne (by omega)]
        exact a3

/-- the frame is done, no index -/
theorem Mid.plain {w0 w1 w : World} {N j b : Nat} {fl vl : Nat → Int} {FS : List Fr} {f : Fr} (hB : Built w0 N fl vl FS w1 j b) (h : Mid w1 (N + 1 + 1 + 1) f b w f.nn) (hj : j < FS.length) (hf : FS[j] = f) (hx : f.ix = false) :
    Built w0 N fl vl FS w (j + 1) (w1.heap.size + 1) := by
  have h2 := hB.on h.bel
  refine ⟨h2.bel, h2.big, h2.row, h2.syms, ?_⟩
  rw [List.take_succ_eq_append_getElem hj, List.reverse_append, hf]
  refine ⟨b, ⟨_, _, none, h.cb, ?_, ?_, .inl ⟨hx, rfl⟩⟩, h2.chain⟩
  · obtain ⟨cs, a1, a2, a3⟩ := h.nr
    exact ⟨cs, a1, a3⟩
  · obtain ⟨cs, a1, a2, a3⟩ := h.vr
    exact ⟨cs, a1, a3⟩

/-- what the walk of the index has laid behind i names -/
structure Ixd (w0 : World) (Y : Nat) (f : Fr) (b : Nat) (w : World) (i : Nat) : Prop where
  bel : Below w0.heap.size w0 w
  cb : w.heap[w0.heap.size + 1]? = some (.cells #[.pointer (some ⟨b, 0, none⟩), .slice (some ⟨w0.heap.size + 1 + 1, 0, none⟩) f.nn f.nn, .slice (some ⟨w0.heap.size + 1 + 1 + 1, 0, none⟩) f.nn f.nn, .map (some (w0.heap.size + 1 + 1 + 1 + 1)), .bool false] 50 (0, 0))
  nr : NameRow w Y (w0.heap.size + 1 + 1) f.nn f
  vr : ValRow w (w0.heap.size + 1 + 1 + 1) f.nn f
  mp : ∃ M, MapHas w Y (w0.heap.size + 1 + 1 + 1 + 1) M ∧ ∀ k, k < 4 → look k M = lastAt f k i

theorem Ixd.start {w0 w : World} {Y b : Nat} {f : Fr} (h : Mid w0 Y f b w f.nn) : Ixd w0 Y f b ((w.setCell ⟨w0.heap.size + 1, 3, none⟩ (.map (some w.heap.size))).alloc (.map #[] 0)) 0 := by
  have hs := h.sz
  refine ⟨?_, ?_, ?_, ?_, [], ?_, fun k _ => rfl⟩
  · exact (h.bel.setCell (by show w0.heap.size ≤ w0.heap.size + 1; omega) _).alloc (by rw [set_size]; omega) _
  · have := set_same h.cb 3 (.map (some w.heap.size))
    rw [hs] at this
    rw [hs]
    exact alloc_old this _
  · obtain ⟨cs, a1, a2, a3⟩ := h.nr
    exact ⟨cs, alloc_old ((set_other (by omega) _ _).trans a1) _, a3⟩
  · obtain ⟨cs, a1, a2, a3⟩ := h.vr
    exact ⟨cs, alloc_old ((set_other (by omega) _ _).trans a1) _, a3⟩
  · have := alloc_new (w.setCell ⟨w0.heap.size + 1, 3, none⟩ (.map (some w.heap.size))) (.map #[] 0)
    rw [set_size] at this
    rw [← hs]
    exact ⟨#[], 0, this, rfl, fun x hx => by simp at hx⟩

theorem Ixd.next {w0 w : World} {Y b i : Nat} {f : Fr} (hY : SymsIn w0 Y) (h : Ixd w0 Y f b w i) :
    ∃ o, (Instr.mapUpdate 48 (.map (some (w0.heap.size + 1 + 1 + 1 + 1))) (.pointer (some ⟨Y + f.sym i, 0, none⟩)) (.int .i64 (i : Int))).run Yba.prog w.drew = .ok () (setBlock w.drew (w0.heap.size + 1 + 1 + 1 + 1) o) ∧
      Ixd w0 Y f b (setBlock w.drew (w0.heap.size + 1 + 1 + 1 + 1) o) (i + 1) := by
  obtain ⟨M, hM, hl⟩ := h.mp
  have hS : SymsIn w.drew Y := fun k hk => by
    obtain ⟨cs, hc⟩ := hY k hk
    exact ⟨cs, heap_on h.bel hc⟩
  have hM' : MapHas w.drew Y (w0.heap.size + 1 + 1 + 1 + 1) M := hM
  obtain ⟨o, h1, h2⟩ := update_run hS hM' (sym_lt f i) i
  have hoth : ∀ c, c ≠ w0.heap.size + 1 + 1 + 1 + 1 → (setBlock w.drew (w0.heap.size + 1 + 1 + 1 + 1) o).heap[c]? = w.heap[c]? := fun c hc => by
    show (w.heap.setIfInBounds _ o)[c]? = _
    rw [Array.getElem?_setIfInBounds_ne (fun e => hc e.symm)]
  refine ⟨o, h1, ?_, (hoth _ (by omega)).trans h.cb, ?_, ?_, put (f.sym i) i M, h2, fun k hk => ?_⟩
  · refine ⟨h.bel.os, h.bel.tape, h.bel.output, ?_, fun k hk => (hoth k (by omega)).trans (h.bel.block k hk)⟩
    show _ ≤ (w.heap.setIfInBounds _ o).size
    rw [Array.size_setIfInBounds]
    exact h.bel.size
  · obtain ⟨cs, a1, a3⟩ := h.nr
    exact ⟨cs, (hoth _ (by omega)).trans a1, a3⟩
  · obtain ⟨cs, a1, a3⟩ := h.vr
    exact ⟨cs, (hoth _ (by omega)).trans a1, a3⟩
  · rw [look_put, hl k hk]
    unfold lastAt
    by_cases e : k = f.sym i
    · rw [if_pos e, if_pos e.symm]
    · rw [if_neg e, if_neg (fun x => e x.symm)]
      cases i <;> rfl

/-- the frame is done, with its index -/
theorem Ixd.built {w0 w1 w : World} {N j b : Nat} {fl vl : Nat → Int} {FS : List Fr} {f : Fr} (hB : Built w0 N fl vl FS w1 j b) (h : Ixd w1 (N + 1 + 1 + 1) f b w f.nn) (hj : j < FS.length) (hf : FS[j] = f) (hx : f.ix = true) :
    Built w0 N fl vl FS w (j + 1) (w1.heap.size + 1) := by
  have h2 := hB.on h.bel
  refine ⟨h2.bel, h2.big, h2.row, h2.syms, ?_⟩
  rw [List.take_succ_eq_append_getElem hj, List.reverse_append, hf]
  obtain ⟨M, m1, m2⟩ := h.mp
  exact ⟨b, ⟨_, _, _, h.cb, h.nr, h.vr, .inr ⟨_, M, hx, rfl, m1, m2⟩⟩, h2.chain⟩

end Go.Proofs.Ybulkime
