/-
  PLAIN: a frame's data; where a symbol is bound last; the map of last places. And the model's map with pointers to symbols as its keys.
-/
import Derived.Test.YbulkimeRows
import Derived.WalkKit
import Derived.ProofKit
import Derived.WalkSpells
import Derived.WalkLawsBesides
import Derived.LaidEqlPtr
namespace Go.Proofs.Ybulkime
open Go.RowKit
open Go.ChangeMaps (setBlock)

/-- one of the frames that came in: its two slices as they stand, its mark, and what the slices hold -/
structure Fr where
  np : Option Addr
  nn : Nat
  nc : Nat
  vp : Option Addr
  vn : Nat
  vc : Nat
  ix : Bool
  names : List Int
  vals : List Int

/-- the symbol that name i stands for -/
def Fr.sym (f : Fr) (i : Nat) : Nat := (f.names.getD i 0 % 4).toNat
/-- what name i is bound to -/
def Fr.val (f : Fr) (i : Nat) : Int := if i < f.vn then f.vals.getD i 0 else 0

/-- the last of the first n names that stands for symbol k -/
def lastAt (f : Fr) (k : Nat) : Nat → Option Nat
  | 0 => none
  | n + 1 => if f.sym n = k then some n else lastAt f k n

theorem lastAt_lt (f : Fr) (k : Nat) : ∀ n i, lastAt f k n = some i → i < n
  | 0, i, h => by cases h
  | n + 1, i, h => by
    unfold lastAt at h
    split at h
    · cases h; omega
    · have := lastAt_lt f k n i h; omega

/-- the nearest binding, the innermost frame first -/
def find (k : Nat) : List Fr → Option Int
  | [] => none
  | f :: fs => match lastAt f k f.nn with
    | some i => some (f.val i)
    | none => find k fs

theorem find_hit {k : Nat} {f : Fr} {fs : List Fr} {i : Nat} (h : lastAt f k f.nn = some i) : find k (f :: fs) = some (f.val i) := by
  simp only [find, h]
theorem find_miss {k : Nat} {f : Fr} {fs : List Fr} (h : lastAt f k f.nn = none) : find k (f :: fs) = find k fs := by
  simp only [find, h]

theorem sym_lt (f : Fr) (i : Nat) : f.sym i < 4 := by
  unfold Fr.sym
  omega

/-! ### the map: symbol to place -/

/-- the pointer to symbol k, the symbols lying in blocks Y, Y+1, Y+2, Y+3 -/
def ptr (Y k : Nat) : Value := .pointer (some ⟨Y + k, 0, none⟩)

/-- symbol k's block is there -/
def SymsIn (w : World) (Y : Nat) : Prop := ∀ k, k < 4 → ∃ cs, w.heap[Y + k]? = some (.cells cs 46 (0, 0))

theorem equal35 {w : World} {Y : Nat} (hS : SymsIn w Y) {j k : Nat} (hj : j < 4) (hk : k < 4) : (Op.equal 35 (ptr Y j) (ptr Y k)).run Yba.prog w = .ok (decide (j = k)) w := by
  obtain ⟨t, ht⟩ : ∃ t, Yba.prog.info? 46 = some t := Option.isSome_iff_exists.1 (by kernel_rfl)
  have hsz : t.size ≠ 0 := by
    have h7 : (Yba.prog.info? 46).map (·.size) = some 7 := by kernel_rfl
    rw [ht] at h7
    simp at h7
    omega
  by_cases e : j = k
  · subst e
    have h : ∀ d : Nat, (Op.equalIn (d + 1) 35 (ptr Y j) (ptr Y j)).run Yba.prog w = .ok true w := fun d => by
      simp [ptr, Op.equalIn, run_underlying Yba.underlying35, sizeOf, typeInfo, ht, run_sameAddr_same]
    simp [Op.equal, Op.maxDepth, h 9999]
  · obtain ⟨ca, ha⟩ := hS j hj
    obtain ⟨cb, hb⟩ := hS k hk
    have hne : (⟨Y + j, 0, none⟩ : Addr) ≠ ⟨Y + k, 0, none⟩ := by
      intro h
      simp only [Addr.mk.injEq, and_true] at h
      omega
    have h : ∀ d : Nat, (Op.equalIn (d + 1) 35 (ptr Y j) (ptr Y k)).run Yba.prog w = .ok false w := fun d => by
      simp [ptr, Op.equalIn, run_underlying Yba.underlying35, sizeOf, typeInfo, ht, hsz, run_sameAddr_other w hne ha hb]
    simp [Op.equal, Op.maxDepth, h 9999, e]

theorem eql35 {w : World} {Y : Nat} (hS : SymsIn w Y) {j k : Nat} (hj : j < 4) (hk : k < 4) : (binOp .eql 35 (ptr Y j) (ptr Y k)).run Yba.prog w = .ok (.bool (decide (j = k))) w := by
  have h := equal35 hS hj hk
  unfold ptr at h ⊢
  simp only [binOp]
  simp [h]

/-- the first pair that bears k -/
def look (k : Nat) : List (Nat × Nat) → Option Nat
  | [] => none
  | (j, p) :: m => if k = j then some p else look k m

/-- k's pair turned, or a new pair at the end -/
def put (k p : Nat) : List (Nat × Nat) → List (Nat × Nat)
  | [] => [(k, p)]
  | (j, q) :: m => if k = j then (j, p) :: m else (j, q) :: put k p m

theorem look_put (k p j : Nat) (m : List (Nat × Nat)) : look j (put k p m) = if j = k then some p else look j m := by
  induction m with
  | nil =>
    simp only [put, look]
  | cons x m ih =>
    obtain ⟨i, q⟩ := x
    by_cases h : k = i
    · subst h
      simp only [put, if_true, look]
      by_cases h2 : j = k
      · simp [h2]
      · simp [h2]
    · simp only [put, if_neg h, look, ih]
      by_cases h2 : j = i
      · subst h2
        have : ¬ j = k := fun e => h e.symm
        simp [this]
      · simp [h2]

/-- an entry's key and element, as pairs have them -/
def pairV (Y : Nat) (x : Nat × Nat) : Value × Value := (ptr Y x.1, .int .i64 (x.2 : Int))

def entV (e : MapEntry) : Value × Value := (e.key, e.val)

/-- the block bm is a map that holds these pairs -/
def MapHas (w : World) (Y bm : Nat) (M : List (Nat × Nat)) : Prop :=
  ∃ es clock, w.heap[bm]? = some (.map es clock) ∧ es.toList.map entV = M.map (pairV Y) ∧ ∀ x ∈ M, x.1 < 4

theorem findAsking_run {w : World} {Y : Nat} (hS : SymsIn w Y) {k : Nat} (hk : k < 4) : ∀ (es : List MapEntry) (M : List (Nat × Nat)) (i : Nat), es.map entV = M.map (pairV Y) → (∀ x ∈ M, x.1 < 4) →
    ∃ r, (Instr.findAsking 35 (ptr Y k) es i).run Yba.prog w = .ok r w ∧ (r.map (·.2) = (look k M).map fun (p : Nat) => Value.int .i64 (p : Int)) ∧
      (r = none → ∀ x ∈ M, x.1 ≠ k) ∧ (∀ n v, r = some (n, v) → i ≤ n ∧ ∃ q, M[n - i]? = some (k, q) ∧ ∀ l, l < n - i → ∀ x, M[l]? = some x → x.1 ≠ k)
  | [], M, i, h, _ => by
    have hM : M = [] := by cases M with
      | nil => rfl
      | cons => simp at h
    subst hM
    exact ⟨none, by simp [Instr.findAsking], rfl, (fun _ x hx => by simp at hx), (fun n v h => by cases h)⟩
  | e :: es, [], i, h, _ => by simp at h
  | e :: es, (j, p) :: M, i, h, hb => by
    simp only [List.map_cons, List.cons.injEq] at h
    obtain ⟨he, hrest⟩ := h
    have hj : j < 4 := hb (j, p) (by simp)
    have hkey : e.key = ptr Y j := congrArg Prod.fst he
    have hval : e.val = .int .i64 (p : Int) := congrArg Prod.snd he
    have hq := equal35 hS hk hj
    by_cases hkj : k = j
    · subst hkj
      refine ⟨some (i, e.val), by simp [Instr.findAsking, hkey, hq], by simp [look, hval], (fun h => by cases h), fun n v h => ?_⟩
      cases h
      exact ⟨Nat.le_refl _, p, by simp, fun l hl => by omega⟩
    · obtain ⟨r, h1, h2, h3, h4⟩ := findAsking_run hS hk es M (i + 1) hrest (fun x hx => hb x (by simp [hx]))
      refine ⟨r, by simp [Instr.findAsking, hkey, hq, hkj, h1], by simpa [look, hkj] using h2, fun hr x hx => ?_, fun n v hr => ?_⟩
      · rcases List.mem_cons.1 hx with rfl | hx
        · exact fun h => hkj h.symm
        · exact h3 hr x hx
      · obtain ⟨a1, q, a2, a3⟩ := h4 n v hr
        refine ⟨by omega, q, ?_, fun l hl x hx => ?_⟩
        · rw [show n - i = (n - (i + 1)) + 1 from by omega, List.getElem?_cons_succ]
          exact a2
        · cases l with
          | zero => simp at hx; subst hx; exact fun h => hkj h.symm
          | succ l => exact a3 l (by omega) x (by simpa using hx)

theorem checkKey35 (b : Bool) (v : Option Addr) (w : World) : (Instr.checkKey b 10000 35 (.pointer v)).run Yba.prog w = .ok () w := by
  have h : ∀ d : Nat, (Instr.checkKey b (d + 1) 35 (.pointer v)).run Yba.prog w = .ok () w := fun d => by simp [Instr.checkKey, run_underlying Yba.underlying35]
  exact h 9999

theorem findKey_run {w : World} {Y : Nat} (hS : SymsIn w Y) {k : Nat} (hk : k < 4) (es : List MapEntry) (M : List (Nat × Nat)) (h : es.map entV = M.map (pairV Y)) (hb : ∀ x ∈ M, x.1 < 4) :
    ∃ r, (Instr.findKey 35 (ptr Y k) es).run Yba.prog w = .ok r w ∧ (r.map (·.2) = (look k M).map fun (p : Nat) => Value.int .i64 (p : Int)) ∧
      (r = none → ∀ x ∈ M, x.1 ≠ k) ∧ (∀ n v, r = some (n, v) → ∃ q, M[n]? = some (k, q) ∧ ∀ l, l < n → ∀ x, M[l]? = some x → x.1 ≠ k) := by
  obtain ⟨r, h1, h2, h3, h4⟩ := findAsking_run hS hk es M 0 h hb
  cases es with
  | nil =>
    have hM : M = [] := by cases M with
      | nil => rfl
      | cons => simp at h
    subst hM
    exact ⟨none, by simp [Instr.findKey, Instr.findNow, run_underlying Yba.underlying35], rfl, (fun _ x hx => by simp at hx), (fun n v h => by cases h)⟩
  | cons e es =>
    refine ⟨r, ?_, h2, h3, fun n v hr => ?_⟩
    · have hn : Instr.findNow (.pointer 46) (ptr Y k) (e :: es) 0 = none := by simp [Instr.findNow, Instr.sameNow]
      simp [Instr.findKey, run_underlying Yba.underlying35, hn, h1]
    · obtain ⟨_, q, a, b⟩ := h4 n v hr
      exact ⟨q, by simpa using a, by simpa using b⟩

/-- 'i, ok := s.index[sym]' -/
theorem lookup_run {w : World} {Y bm : Nat} {M : List (Nat × Nat)} (hS : SymsIn w Y) (hM : MapHas w Y bm M) {k : Nat} (hk : k < 4) :
    (Instr.lookup 48 (.map (some bm)) (ptr Y k) true).run Yba.prog w = .ok (match look k M with | some p => .tuple #[.int .i64 (p : Int), .bool true] | none => .tuple #[.int .i64 0, .bool false]) w := by
  obtain ⟨es, clock, hb, he, hlt⟩ := hM
  obtain ⟨r, h1, h2, _, _⟩ := findKey_run hS hk es.toList M he hlt
  have hc := checkKey35 es.isEmpty (some ⟨Y + k, 0, none⟩) w
  have hz : (zeroValue 3).run Yba.prog w = .ok (.int .i64 0) w := by kernel_rfl
  unfold ptr at h1 ⊢
  cases hr : r with
  | none =>
    rw [hr] at h1 h2
    have h2' : look k M = none := by simpa using h2.symm
    simp [Instr.lookup, run_underlying Yba.underlying48, MapKept.run_getObj_map hb, hc, h1, hz, h2', Result.andThen]
  | some x =>
    obtain ⟨n, v⟩ := x
    rw [hr] at h1 h2
    cases hl : look k M with
    | none => rw [hl] at h2; simp at h2
    | some p =>
      rw [hl] at h2
      have hv : v = .int .i64 (p : Int) := by simpa using h2
      simp [Instr.lookup, run_underlying Yba.underlying48, MapKept.run_getObj_map hb, hc, h1, hv, Result.andThen]

theorem put_none {k p : Nat} : ∀ {M : List (Nat × Nat)}, (∀ x ∈ M, x.1 ≠ k) → put k p M = M ++ [(k, p)]
  | [], _ => rfl
  | (j, q) :: M, h => by
    have hj : ¬ k = j := fun e => h (j, q) (by simp) e.symm
    simp only [put, if_neg hj, List.cons_append]
    rw [put_none fun x hx => h x (by simp [hx])]

theorem put_at {k p : Nat} : ∀ {M : List (Nat × Nat)} {n q : Nat}, M[n]? = some (k, q) → (∀ l, l < n → ∀ x, M[l]? = some x → x.1 ≠ k) → put k p M = M.set n (k, p)
  | [], n, q, h, _ => by simp at h
  | (j, r) :: M, 0, q, h, _ => by
    simp at h
    obtain ⟨rfl, rfl⟩ := h
    simp [put]
  | (j, r) :: M, n + 1, q, h, hb => by
    have hj : ¬ k = j := fun e => hb 0 (by omega) (j, r) (by simp) e.symm
    simp only [put, if_neg hj, List.set_cons_succ]
    rw [put_at (by simpa using h) fun l hl x hx => hb (l + 1) (by omega) x (by simpa using hx)]

theorem mem_put {k p : Nat} (hk : k < 4) : ∀ {M : List (Nat × Nat)}, (∀ x ∈ M, x.1 < 4) → ∀ x ∈ put k p M, x.1 < 4
  | [], _, x, hx => by
    simp [put] at hx
    rw [hx]
    exact hk
  | (j, q) :: M, h, x, hx => by
    unfold put at hx
    split at hx
    · rcases List.mem_cons.1 hx with rfl | hx
      · exact h (j, q) (by simp)
      · exact h x (by simp [hx])
    · rcases List.mem_cons.1 hx with rfl | hx
      · exact h (j, q) (by simp)
      · exact mem_put hk (fun y hy => h y (by simp [hy])) x hx

/-- 'c.index[name] = i' -/
theorem update_run {w : World} {Y bm : Nat} {M : List (Nat × Nat)} (hS : SymsIn w Y) (hM : MapHas w Y bm M) {k : Nat} (hk : k < 4) (p : Nat) :
    ∃ o, (Instr.mapUpdate 48 (.map (some bm)) (ptr Y k) (.int .i64 (p : Int))).run Yba.prog w = .ok () (setBlock w bm o) ∧ MapHas (setBlock w bm o) Y bm (put k p M) := by
  obtain ⟨es, clock, hb, he, hlt⟩ := hM
  obtain ⟨r, h1, _, h3, h4⟩ := findKey_run hS hk es.toList M he hlt
  have hc := checkKey35 false (some ⟨Y + k, 0, none⟩) w
  have hbl : bm < w.heap.size := (Array.getElem?_eq_some_iff.1 hb).1
  have hset : ∀ o, (setBlock w bm o).heap[bm]? = some o := fun o => by simp [setBlock, hbl]
  unfold ptr at h1 ⊢
  cases hr : r with
  | none =>
    rw [hr] at h1
    refine ⟨.map (es.push { key := .pointer (some ⟨Y + k, 0, none⟩), val := .int .i64 (p : Int), born := clock }) (clock + 1), by simp [Instr.mapUpdate, run_underlying Yba.underlying48, MapKept.run_getObj_map hb, hc, h1, MapKept.run_setObj_map _ hb, Result.andThen, setBlock], ?_⟩
    refine ⟨_, _, hset _, ?_, mem_put hk hlt⟩
    rw [put_none (h3 hr)]
    simp [he, entV, pairV, ptr]
  | some x =>
    obtain ⟨n, v⟩ := x
    rw [hr] at h1
    obtain ⟨q, a, b⟩ := h4 n v hr
    have hn : n < es.size := by
      have : n < M.length := (List.getElem?_eq_some_iff.1 a).1
      have e2 := congrArg List.length he
      simp at e2
      omega
    have hkey : (es[n]).key = .pointer (some ⟨Y + k, 0, none⟩) := by
      have e2 := congrArg (·[n]?) he
      simp only [List.getElem?_map, a, Option.map_some] at e2
      have e3 : es.toList[n]? = some es[n] := by simp [hn]
      rw [e3] at e2
      have e4 := congrArg (fun x : Option (Value × Value) => x.map Prod.fst) e2
      simpa [entV, pairV, ptr] using e4
    have hks : (Instr.keyThatStays (.pointer (some ⟨Y + k, 0, none⟩)) (.pointer (some ⟨Y + k, 0, none⟩))).run Yba.prog w = .ok (.pointer (some ⟨Y + k, 0, none⟩)) w := by
      simp [Instr.keyThatStays, Instr.sameBits]
    refine ⟨.map (es.modify n fun e => { e with key := .pointer (some ⟨Y + k, 0, none⟩), val := .int .i64 (p : Int) }) clock, by simp [Instr.mapUpdate, run_underlying Yba.underlying48, MapKept.run_getObj_map hb, hc, h1, hn, hkey, hks, MapKept.run_setObj_map _ hb, Result.andThen, setBlock], ?_⟩
    refine ⟨_, _, hset _, ?_, mem_put hk hlt⟩
    rw [put_at a b]
    apply List.ext_getElem?
    intro i
    have ei := congrArg (·[i]?) he
    simp only [List.getElem?_map] at ei
    by_cases e : n = i
    · subst e
      have hnl : n < M.length := (List.getElem?_eq_some_iff.1 a).1
      simp [hn, hnl, entV, pairV, ptr]
    · simp only [List.getElem?_map, Array.toList_modify]
      rw [List.getElem?_modify, List.getElem?_set]
      simp only [if_neg e]
      simpa using ei

end Go.Proofs.Ybulkime
