/-
  BYTES THAT THE CALL OWNS ('Own'), A STEP THAT TURNS NOTHING BUT THE CALL's OWN ROWS ('Stp'), AND append IN THESE WORDS.
-/
import Derived.Test.YbulkiiyDoorShelf
import Derived.Lib.AppendStr
import Derived.Lib.AppendIntMem
import Derived.Lib.OthersKept
import Derived.Lib.ItoaLen
import Derived.WalkKit
import Derived.WalkSpells
import Derived.WalkLawsBesides
import Derived.Laws.AppendOwnNone
namespace Go.Proofs.YbulkiiyDoor
open Go.RowKit Go.Lib

theorem info5 : (Ybad.prog.info? 5).map (fun i => (i.zero, i.size, i.bytes)) = some (some (.int .u8 0), 1, 1) := by kernel_rfl

/-- bytes as numbers -/
def nums (T : List UInt8) : List Int := T.map fun b => (b.toNat : Int)

theorem nums_length (T : List UInt8) : (nums T).length = T.length := by simp [nums]
theorem bytesOf_nums (T : List UInt8) : Lib.bytesOf (nums T) = T := by
  induction T with
  | nil => rfl
  | cons b T ih =>
    have h : UInt8.ofNat ((b.toNat : Int)).toNat = b := by simp
    simp only [nums, Lib.bytesOf, List.map_cons] at ih ⊢
    rw [h]
    exact congrArg _ ih

theorem nums_getD (T : List UInt8) (i : Nat) (h : i < T.length) : (nums T).getD i 0 = ((T[i]).toNat : Int) := by
  simp [nums, h]

theorem byteCells_length (T : List UInt8) : (Lib.byteCells T).length = T.length := by simp [Lib.byteCells]
theorem byteCells_append (T U : List UInt8) : Lib.byteCells (T ++ U) = Lib.byteCells T ++ Lib.byteCells U := by simp [Lib.byteCells]
theorem byteCells_one (T : List UInt8) : ∀ u ∈ Lib.byteCells T, u.oneCell' = true := by
  intro u hu
  simp only [Lib.byteCells, List.mem_map] at hu
  obtain ⟨b, _, rfl⟩ := hu
  rfl

/-- v holds the bytes T, in a row that the call has laid from block B on -/
def Own (w : World) (B : Nat) (v : Value) (T : List UInt8) : Prop := w.ownsRow B 5 1 v T.length (Lib.byteCells T)

/-- below B nothing has turned; no block that is no row of bytes has turned -/
structure Stp (B : Nat) (w w' : World) : Prop where
  below : Below B w w'
  kept : Lib.OthersKept 5 none w w'

theorem Stp.refl (B : Nat) (w : World) : Stp B w w := ⟨Below.refl _ _, Lib.OthersKept.refl _ _ _⟩
theorem Stp.trans {B : Nat} {a b c : World} (h : Stp B a b) (k : Stp B b c) : Stp B a c := ⟨h.below.trans k.below, h.kept.trans k.kept⟩
theorem Stp.alloc {B : Nat} {a w : World} (h : Stp B a w) (hB : B ≤ w.heap.size) (o : Obj) : Stp B a (w.alloc o) := ⟨h.below.alloc hB o, h.kept.alloc o⟩
theorem Stp.size {B : Nat} {a w : World} (h : Stp B a w) : a.heap.size ≤ w.heap.size := h.below.size

theorem Own.nil (w : World) (B : Nat) : Own w B (.slice none 0 0) [] := World.ownsRow_nil _ _ _ _
theorem Own.alloc {w : World} {B : Nat} {v : Value} {T : List UInt8} (h : Own w B v T) (o : Obj) : Own (w.alloc o) B v T := World.ownsRow.alloc h o

theorem Own.row {w : World} {B : Nat} {v : Value} {T : List UInt8} (h : Own w B v T) : ∀ g, v.ownBlock = some g → ∃ c fz, w.heap[g]? = some (.cells c 5 fz) := by
  intro g hg
  rcases h.2 with ⟨rfl, _⟩ | ⟨g', cap, cur, rfl, _, hh, _⟩
  · simp [Value.ownBlock] at hg
  · simp [Value.ownBlock] at hg
    subst hg
    exact ⟨_, _, hh⟩

/-- what the row is, as a slice -/
theorem Own.form {w : World} {B : Nat} {v : Value} {T : List UInt8} (h : Own w B v T) :
    ∃ p c, v = .slice p T.length c ∧ (p = none → T.length = 0 ∧ c = 0) ∧ T.length ≤ c ∧ c ≤ maxLen ∧ Lib.BytesIn w p T.length (nums T) ∧ (∀ a, p = some a → B ≤ a.block ∧ a.block < w.heap.size ∧ a = ⟨a.block, 0, none⟩) := by
  rcases h.2 with ⟨rfl, h0⟩ | ⟨g, cap, cur, rfl, hb, hh, hnc, hcm, hcs, htake⟩
  · refine ⟨none, 0, by rw [h0], fun _ => ⟨h0, rfl⟩, by omega, Nat.zero_le _, by rw [h0]; exact Lib.BytesIn.nil _ _ _, fun a ha => by cases ha⟩
  · refine ⟨some ⟨g, 0, none⟩, cap, rfl, fun e => (by cases e), hnc, hcm, ?_, fun a ha => ?_⟩
    · intro _
      refine ⟨g, 0, rfl, fun i hi => ?_⟩
      rw [Nat.zero_add, World.ownsRow.cellAt h i (by omega), nums_getD T i hi]
      simp [Lib.byteCells, hi]
    · cases ha
      exact ⟨hb, (Array.getElem?_eq_some_iff.1 hh).1, rfl⟩

theorem cells_of_bytes {w : World} {ad : Addr} {m : Nat} {U : List UInt8} (hm : U.length = m) (hb : Lib.BytesIn w (some ad) m (nums U)) :
    ∀ j u, (Lib.byteCells U)[j]? = some u → w.cell? (ad.add j) = some u := by
  intro j u hu
  have hj : j < U.length := by
    have := (List.getElem?_eq_some_iff.1 hu).1
    simpa [Lib.byteCells] using this
  obtain ⟨b, o, hp, hc⟩ := hb (by omega)
  cases hp
  rw [Addr.add_lit, hc j (by omega), nums_getD U j hj]
  simp [Lib.byteCells, hj] at hu
  rw [hu]

theorem stp_of_grown {B : Nat} {w w' : World} {v : Value} {T : List UInt8} (hown : Own w B v T) (hB : B ≤ w.heap.size) (hg : w.grownBy w' v.ownBlock) : Stp B w w' :=
  ⟨(Below.refl _ _).grown hg hB (fun k hk => (World.ownsRow.lt hown k hk).1), (Lib.OthersKept.refl _ _ _).grown hg hown.row⟩

/-- append(v, x...), x a slice of bytes: nil, empty or not -/
theorem app_slice {w : World} {ops : Array Oper} {rest : List Oper} {o : Oper} {a : Act} {Q : Exit → Act → World → Prop} (hgd : o.guard = none) (s x : Operand)
    (ho : o.op = .call { callee := .builtin .append, args := #[s, x], argTypes := #[22, 22] })
    (B : Nat) (v : Value) (T : List UInt8) (hs : a.eval s = v) (hown : Own w B v T)
    (p : Option Addr) (m c : Nat) (U : List UInt8) (hx : a.eval x = .slice p m c) (hp : p = none → m = 0 ∧ c = 0) (hm : U.length = m) (hb : Lib.BytesIn w p m (nums U))
    (hlim : T.length + U.length ≤ 1000000000) (hB : B ≤ w.heap.size)
    (h : ∀ v' w', Own w' B v' (T ++ U) → Stp B w w' → wpList Ybad.prog ops Q rest (a.put o.dst v') w') : wpList Ybad.prog ops Q (o :: rest) a w := by
  obtain ⟨i0, hi, hz0, hz1, hz2⟩ := info_parts info5
  cases p with
  | none =>
    obtain ⟨rfl, rfl⟩ := hp rfl
    obtain rfl : U = [] := List.eq_nil_of_length_eq_zero hm
    refine wpList_append_own_none hgd s x 22 ho B 5 i0 1 Ybad.underlying22 hi v T.length _ hs hown hx (h v w (by simpa using hown) (Stp.refl _ _))
  | some ad =>
    refine wpList_append_own w hgd s x 22 ho B 5 i0 (.int .u8 0) 1 1 Ybad.underlying22 hi hz0 hz1 hz2 rfl (by decide) v T.length (Lib.byteCells T) hs hown ad m c (Lib.byteCells U) hx (by rw [byteCells_length]; omega) (cells_of_bytes hm hb) (byteCells_one U) (by unfold maxLen; omega) (by omega) hB ?_
    intro v' w' h1 h2 _
    refine h v' w' ?_ (stp_of_grown hown hB h2)
    unfold Own
    rw [byteCells_append, List.length_append, hm]
    exact h1

/-- append(v, s...), s a string -/
theorem app_str {w : World} {ops : Array Oper} {rest : List Oper} {o : Oper} {a : Act} {Q : Exit → Act → World → Prop} (hgd : o.guard = none) (s x : Operand)
    (ho : o.op = .call { callee := .builtin .append, args := #[s, x], argTypes := #[22, 9] })
    (B : Nat) (v : Value) (T : List UInt8) (hs : a.eval s = v) (hown : Own w B v T) (z : ByteArray) (hx : a.eval x = .string z)
    (hlim : T.length + z.size ≤ 1000000000) (hB : B ≤ w.heap.size)
    (h : ∀ v' w', Own w' B v' (T ++ z.data.toList) → Stp B w w' → wpList Ybad.prog ops Q rest (a.put o.dst v') w') : wpList Ybad.prog ops Q (o :: rest) a w := by
  obtain ⟨i0, hi, hz0, hz1, hz2⟩ := info_parts info5
  refine Lib.wpList_append_own_string w hgd s x 22 9 ho B 5 i0 Ybad.underlying22 Ybad.underlying9 hi hz0 hz1 hz2 v T.length (Lib.byteCells T) hs hown z hx (by unfold maxLen; omega) (by omega) hB ?_
  intro v' w' h1 h2 _
  refine h v' w' ?_ (stp_of_grown hown hB h2)
  unfold Own
  rw [byteCells_append, List.length_append]
  exact h1

/-- the literal that 'append(v, c1, ..)' makes first -/
theorem lit_bytes (w : World) (U : List UInt8) (t : TypeId) (n : Nat) (hn : w.heap.size = n) (cs : Array Value) (hcs : cs.toList = Lib.byteCells U) :
    Lib.BytesIn (w.alloc (.cells cs t)) (some ⟨n, 0, none⟩) U.length (nums U) := by
  intro _
  subst hn
  refine ⟨w.heap.size, 0, rfl, fun i hi => ?_⟩
  rw [Nat.zero_add, cell_of_row _ w.heap.size i cs t (0, 0) (MapKept.heap_alloc w _).1, nums_getD U i hi]
  have : cs[i]? = cs.toList[i]? := by simp
  rw [this, hcs]
  simp [Lib.byteCells, hi]

end Go.Proofs.YbulkiiyDoor
