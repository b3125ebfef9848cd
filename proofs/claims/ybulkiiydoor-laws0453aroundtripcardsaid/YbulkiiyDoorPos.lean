/-
  THE WALK OF AppendPosition.
-/
import Derived.Test.YbulkiiyDoorBase
import Derived.Lib.Hide
import Derived.BigCall
namespace Go.Proofs.YbulkiiyDoor
open Go.RowKit Go.Lib

def posB (file : List UInt8) (line col : Int) : List UInt8 := (if file = [] then [] else file ++ [58]) ++ (Lib.itoa line ++ ([58] ++ Lib.itoa col))

/-- the box of pos is still there -/
theorem Stp.box {B : Nat} {w w' : World} (h : Stp B w w') {k : Nat} {cs : Array Value} (hb : w.heap[k]? = some (.cells cs 25 (0, 0))) : w'.heap[k]? = some (.cells cs 25 (0, 0)) :=
  h.kept k _ hb (by simp) (by intro c fz e; cases e)

theorem tab_on {B : Nat} {w w' : World} (h : Lib.TabBelow Ybad.prog B w tabName .u64 Lib.pow10Tab) (s : Stp B w w') : Lib.TabBelow Ybad.prog B w' tabName .u64 Lib.pow10Tab := h.on s.below

theorem appendInt_any (B : Nat) (i : Int) (h0 : -9223372036854775808 ≤ i) (h1 : i ≤ 9223372036854775807) (sv : Value) (T : List UInt8) (w : World) (hown : Own w B sv T) (hB : B ≤ w.heap.size) (hlim : T.length ≤ 1000000000)
    (htab : Lib.TabBelow Ybad.prog B w tabName .u64 Lib.pow10Tab) :
    Calls Ybad.prog 9 #[sv, .int .i64 i, .int .i64 10] w fun e w' => ∃ v', e = .returned v' ∧ Own w' B v' (T ++ Lib.itoa i) ∧ Stp B w w' := by
  refine (Ybad.strconv_AppendInt_10 B T.length i h0 h1 sv _ w hown hB (by omega) htab).mono ?_
  rintro e w' ⟨v', rfl, h1, h2, h3⟩
  refine ⟨v', rfl, ?_, h2, h3⟩
  unfold Own
  rw [byteCells_append, List.length_append]
  exact h1

set_option maxHeartbeats 4000000 in
set_option maxRecDepth 100000 in
theorem pos_bare (B : Nat) (line col : Int) (l0 : -9223372036854775808 ≤ line) (l1 : line ≤ 9223372036854775807) (c0 : -9223372036854775808 ≤ col) (c1 : col ≤ 9223372036854775807)
    (sv : Value) (T : List UInt8) (w : World) (hown : Own w B sv T) (hB : B ≤ w.heap.size) (hlim : T.length ≤ 100000000)
    (htab : Lib.TabBelow Ybad.prog B w tabName .u64 Lib.pow10Tab) :
    Calls Ybad.prog 8 #[sv, .agg #[.string ⟨#[]⟩, .int .i64 line, .int .i64 col]] w fun e w' => ∃ v', e = .returned v' ∧ Own w' B v' (T ++ posB [] line col) ∧ Stp B w w' := by
  have la := Lib.itoa_length_le line l0 l1
  have lb := Lib.itoa_length_le col c0 c1
  have hbA : (w.alloc (.cells #[.string ⟨#[]⟩, .int .i64 line, .int .i64 col] 25)).heap[w.heap.size]? = some (.cells #[.string ⟨#[]⟩, .int .i64 line, .int .i64 col] 25 (0, 0)) := (MapKept.heap_alloc w _).1
  have sA : Stp B w (w.alloc (.cells #[.string ⟨#[]⟩, .int .i64 line, .int .i64 col] 25)) := (Stp.refl _ _).alloc hB _
  have hoA : Own (w.alloc (.cells #[.string ⟨#[]⟩, .int .i64 line, .int .i64 col] 25)) B sv T := hown.alloc _
  have hBA : B ≤ (w.alloc (.cells #[.string ⟨#[]⟩, .int .i64 line, .int .i64 col] 25)).heap.size := Nat.le_trans hB sA.size
  have htA := tab_on htab sA
  go_enter Ybad.func8, Ybad.ntmps8
  go_wp2_with fail
  refine (appendInt_any B line l0 l1 _ _ _ hoA hBA (by omega) htA).mono ?_
  rintro e w1 ⟨v1, rfl, ho1, s1⟩
  have hb1 := s1.box hbA
  have hB1 : B ≤ w1.heap.size := Nat.le_trans hBA s1.size
  have x2 : w1.cell? ⟨w.heap.size, 2, none⟩ = some (.int .i64 col) := by rw [cell_of_row w1 _ 2 _ _ _ hb1]; rfl
  have hlt1 : w.heap.size < w1.heap.size := (Array.getElem?_eq_some_iff.1 hb1).1
  go_wp2_with (at_builtin; refine app_slice rfl _ _ rfl B _ _ rfl (ho1.alloc _) (some ⟨w1.heap.size, 0, none⟩) 1 1 [58] rfl (by simp) rfl (lit_bytes _ [58] _ _ rfl _ rfl) (by simp only [List.length_append, List.length_cons, List.length_nil]; omega) (by simp; omega) ?_)
  intro v2 w2 ho2 s2
  have s02 : Stp B w1 w2 := ((Stp.refl _ _).alloc hB1 _).trans s2
  have hb2 := s02.box hb1
  have hB2 : B ≤ w2.heap.size := Nat.le_trans hB1 s02.size
  clear x2
  have x2 : w2.cell? ⟨w.heap.size, 2, none⟩ = some (.int .i64 col) := by rw [cell_of_row w2 _ 2 _ _ _ hb2]; rfl
  clear hb1 hlt1
  go_wp2_with fail
  refine (appendInt_any B col c0 c1 _ _ _ ho2 hB2 (by simp only [List.length_append, List.length_cons, List.length_nil]; omega) (tab_on (tab_on htA s1) s02)).mono ?_
  rintro e w3 ⟨v3, rfl, ho3, s3⟩
  go_wp2
  go_ret
  refine ⟨_, rfl, ?_, (sA.trans s1).trans (s02.trans s3)⟩
  simpa [posB, List.append_assoc] using ho3

set_option maxHeartbeats 4000000 in
set_option maxRecDepth 100000 in
theorem pos_file (B : Nat) (file : ByteArray) (line col : Int) (l0 : -9223372036854775808 ≤ line) (l1 : line ≤ 9223372036854775807) (c0 : -9223372036854775808 ≤ col) (c1 : col ≤ 9223372036854775807)
    (sv : Value) (T : List UInt8) (w : World) (hown : Own w B sv T) (hB : B ≤ w.heap.size) (hlim : T.length + file.size ≤ 100000000) (hf : file.toList.isEmpty = false)
    (htab : Lib.TabBelow Ybad.prog B w tabName .u64 Lib.pow10Tab) :
    Calls Ybad.prog 8 #[sv, .agg #[.string file, .int .i64 line, .int .i64 col]] w fun e w' => ∃ v', e = .returned v' ∧ Own w' B v' (T ++ posB file.data.toList line col) ∧ Stp B w w' := by
  have la := Lib.itoa_length_le line l0 l1
  have lb := Lib.itoa_length_le col c0 c1
  have hfz : file.data.toList.length = file.size := by rw [Array.length_toList]; rfl
  have HF : Hid (file.data.toList ≠ []) := by
    intro e
    rw [Lib.toList_data, e] at hf
    cases hf
  have hb0 : (w.alloc (.cells #[.string file, .int .i64 line, .int .i64 col] 25)).heap[w.heap.size]? = some (.cells #[.string file, .int .i64 line, .int .i64 col] 25 (0, 0)) := (MapKept.heap_alloc w _).1
  have s0 : Stp B w (w.alloc (.cells #[.string file, .int .i64 line, .int .i64 col] 25)) := (Stp.refl _ _).alloc hB _
  have hB0 : B ≤ (w.alloc (.cells #[.string file, .int .i64 line, .int .i64 col] 25)).heap.size := Nat.le_trans hB s0.size
  go_enter Ybad.func8, Ybad.ntmps8
  go_wp2_with (at_builtin; refine app_str rfl _ _ rfl B _ _ rfl (hown.alloc _) file rfl (by omega) hB0 ?_)
  intro va wa hoa sa
  have hba := sa.box hb0
  have hBa : B ≤ wa.heap.size := Nat.le_trans hB0 sa.size
  go_wp2_with (at_builtin; refine app_slice rfl _ _ rfl B _ _ rfl (hoa.alloc _) (some ⟨wa.heap.size, 0, none⟩) 1 1 [58] rfl (by simp) rfl (lit_bytes _ [58] _ _ rfl _ rfl) (by simp only [List.length_append, List.length_cons, List.length_nil, hfz]; omega) (by simp; omega) ?_)
  intro vb wb hoA sb
  have s0b : Stp B wa wb := ((Stp.refl _ _).alloc hBa _).trans sb
  have hbA := s0b.box hba
  have hBA : B ≤ wb.heap.size := Nat.le_trans hBa s0b.size
  have sA : Stp B w wb := (s0.trans sa).trans s0b
  have htA := tab_on htab sA
  have x1 : wb.cell? ⟨w.heap.size, 1, none⟩ = some (.int .i64 line) := by rw [cell_of_row wb _ 1 _ _ _ hbA]; rfl
  clear hba hoa hb0 s0b sb sa s0
  go_wp2_with fail
  refine (appendInt_any B line l0 l1 _ _ _ hoA hBA (by simp only [List.length_append, List.length_cons, List.length_nil, hfz]; omega) htA).mono ?_
  rintro e w1 ⟨v1, rfl, ho1, s1⟩
  have hb1 := s1.box hbA
  have hB1 : B ≤ w1.heap.size := Nat.le_trans hBA s1.size
  have x2 : w1.cell? ⟨w.heap.size, 2, none⟩ = some (.int .i64 col) := by rw [cell_of_row w1 _ 2 _ _ _ hb1]; rfl
  have hlt1 : w.heap.size < w1.heap.size := (Array.getElem?_eq_some_iff.1 hb1).1
  go_wp2_with (at_builtin; refine app_slice rfl _ _ rfl B _ _ rfl (ho1.alloc _) (some ⟨w1.heap.size, 0, none⟩) 1 1 [58] rfl (by simp) rfl (lit_bytes _ [58] _ _ rfl _ rfl) (by simp only [List.length_append, List.length_cons, List.length_nil, hfz]; omega) (by simp; omega) ?_)
  intro v2 w2 ho2 s2
  have s02 : Stp B w1 w2 := ((Stp.refl _ _).alloc hB1 _).trans s2
  have hb2 := s02.box hb1
  have hB2 : B ≤ w2.heap.size := Nat.le_trans hB1 s02.size
  clear x2 x1
  have x2 : w2.cell? ⟨w.heap.size, 2, none⟩ = some (.int .i64 col) := by rw [cell_of_row w2 _ 2 _ _ _ hb2]; rfl
  clear hb1 hlt1
  go_wp2_with fail
  refine (appendInt_any B col c0 c1 _ _ _ ho2 hB2 (by simp only [List.length_append, List.length_cons, List.length_nil, hfz]; omega) (tab_on (tab_on htA s1) s02)).mono ?_
  rintro e w3 ⟨v3, rfl, ho3, s3⟩
  go_wp2
  go_ret
  refine ⟨_, rfl, ?_, (sA.trans s1).trans (s02.trans s3)⟩
  unfold posB
  rw [if_neg HF.out]
  simpa [List.append_assoc] using ho3

theorem pos_any (B : Nat) (file : ByteArray) (line col : Int) (l0 : -9223372036854775808 ≤ line) (l1 : line ≤ 9223372036854775807) (c0 : -9223372036854775808 ≤ col) (c1 : col ≤ 9223372036854775807)
    (sv : Value) (T : List UInt8) (w : World) (hown : Own w B sv T) (hB : B ≤ w.heap.size) (hlim : T.length + file.size ≤ 100000000)
    (htab : Lib.TabBelow Ybad.prog B w tabName .u64 Lib.pow10Tab) :
    Calls Ybad.prog 8 #[sv, .agg #[.string file, .int .i64 line, .int .i64 col]] w fun e w' => ∃ v', e = .returned v' ∧ Own w' B v' (T ++ posB file.data.toList line col) ∧ Stp B w w' := by
  cases hf : file.toList.isEmpty with
  | false => exact pos_file B file line col l0 l1 c0 c1 sv T w hown hB hlim hf htab
  | true =>
    have h1 : file.data.toList = [] := by
      rw [Lib.toList_data] at hf
      simpa using hf
    obtain rfl : file = ⟨#[]⟩ := by
      obtain ⟨d⟩ := file
      have h2 : d = #[] := by
        have : d.toList = [] := h1
        simpa using this
      rw [h2]
    exact pos_bare B line col l0 l1 c0 c1 sv T w hown hB (by omega) htab

end Go.Proofs.YbulkiiyDoor
