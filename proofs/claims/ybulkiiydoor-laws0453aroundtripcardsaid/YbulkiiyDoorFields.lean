/-
  THE WALK OF appendFields.
-/
import Derived.Test.YbulkiiyDoorEsc
namespace Go.Proofs.YbulkiiyDoor
open Go.RowKit Go.Lib

set_option maxHeartbeats 4000000 in
set_option maxRecDepth 100000 in
theorem fields_some (B : Nat) (file kind : ByteArray) (line col : Int) (l0 : -9223372036854775808 ≤ line) (l1 : line ≤ 9223372036854775807) (c0 : -9223372036854775808 ≤ col) (c1 : col ≤ 9223372036854775807)
    (sv : Value) (T X : List UInt8) (w : World) (tb to_ tn tc : Nat) (hown : Own w B sv T) (hB : B ≤ w.heap.size) (hlim : T.length + file.size + kind.size + X.length ≤ 10000000)
    (htab : Lib.TabBelow Ybad.prog B w tabName .u64 Lib.pow10Tab) (hX : X.length = tn) (htb : tb < B) (hcell : ∀ i, i < tn → w.cell? ⟨tb, to_ + i, none⟩ = some (.int .u8 ((nums X).getD i 0))) :
    Calls Ybad.prog 5 #[sv, .agg #[.string file, .int .i64 line, .int .i64 col], .string kind, .slice (some ⟨tb, to_, none⟩) tn tc] w fun e w' =>
      ∃ v', e = .returned v' ∧ Own w' B v' (T ++ fieldsB file.data.toList line col kind.data.toList X) ∧ Stp B w w' := by
  have la := Lib.itoa_length_le line l0 l1
  have lb := Lib.itoa_length_le col c0 c1
  have hkz : kind.data.toList.length = kind.size := by rw [Array.length_toList]; rfl
  have hfz : file.data.toList.length = file.size := by rw [Array.length_toList]; rfl
  have hpl : (posB file.data.toList line col).length ≤ file.size + 100 := by
    unfold posB
    split
    all_goals (simp only [List.length_append, List.length_cons, List.length_nil, hfz]; omega)
  have HC : Hid (∀ i, i < tn → w.cell? ⟨tb, to_ + i, none⟩ = some (.int .u8 ((nums X).getD i 0))) := hcell
  clear hcell
  have s0 : Stp B w (w.alloc (.cells #[.string file, .int .i64 line, .int .i64 col] 25)) := (Stp.refl _ _).alloc hB _
  have hB0 : B ≤ (w.alloc (.cells #[.string file, .int .i64 line, .int .i64 col] 25)).heap.size := Nat.le_trans hB s0.size
  go_enter Ybad.func5, Ybad.ntmps5
  go_wp2_with fail
  refine (pos_any B file line col l0 l1 c0 c1 _ _ _ (hown.alloc _) hB0 (by omega) (tab_on htab s0)).mono ?_
  rintro e w1 ⟨v1, rfl, ho1, s1⟩
  have hB1 : B ≤ w1.heap.size := Nat.le_trans hB0 s1.size
  go_wp2_with (at_builtin; refine app_slice rfl _ _ rfl B _ _ rfl (ho1.alloc _) (some ⟨w1.heap.size, 0, none⟩) 1 1 [9] rfl (by simp) rfl (lit_bytes _ [9] _ _ rfl _ rfl) (by simp only [List.length_append, List.length_cons, List.length_nil]; omega) (by simp; omega) ?_)
  intro v2 w2 ho2 s2
  have s02 : Stp B w1 w2 := ((Stp.refl _ _).alloc hB1 _).trans s2
  have hB2 : B ≤ w2.heap.size := Nat.le_trans hB1 s02.size
  go_wp2_with (at_builtin; refine app_str rfl _ _ rfl B _ _ rfl ho2 kind rfl (by simp only [List.length_append, List.length_cons, List.length_nil]; omega) hB2 ?_)
  intro v3 w3 ho3 s3
  have hB3 : B ≤ w3.heap.size := Nat.le_trans hB2 s3.size
  go_wp2_with (at_builtin; refine app_slice rfl _ _ rfl B _ _ rfl (ho3.alloc _) (some ⟨w3.heap.size, 0, none⟩) 1 1 [9] rfl (by simp) rfl (lit_bytes _ [9] _ _ rfl _ rfl) (by simp only [List.length_append, List.length_cons, List.length_nil, hkz]; omega) (by simp; omega) ?_)
  intro v4 w4 ho4 s4
  have s04 : Stp B w3 w4 := ((Stp.refl _ _).alloc hB3 _).trans s4
  have hB4 : B ≤ w4.heap.size := Nat.le_trans hB3 s04.size
  have sA : Stp B w w4 := (s0.trans s1).trans (s02.trans (s3.trans s04))
  obtain ⟨P, hP⟩ : ∃ P, P = T ++ (posB file.data.toList line col ++ 9 :: (kind.data.toList ++ [9])) := ⟨_, rfl⟩
  have ho : Own w4 B v4 P := by rw [hP]; simpa [List.append_assoc] using ho4
  have hPl : P.length ≤ 20000000 := by rw [hP]; simp only [List.length_append, List.length_cons, List.length_nil, hkz]; omega
  have HP : Hid (P = T ++ (posB file.data.toList line col ++ 9 :: (kind.data.toList ++ [9]))) := hP
  clear hP
  clear ho1 s1 hB1 ho2 s2 s02 hB2 ho3 s3 hB3 ho4 s4 s04 s0 hB0 hpl la lb hown htab
  go_wp2
  go_loopw [0, 25] (fun v i wr => ∃ k : Nat, k ≤ tn ∧ i = .int .i64 k ∧ Own wr B v (P ++ (X.take k).flatMap esc) ∧ Stp B w4 wr) (fun _ i _ => tn - (RowKit.intOf i).toNat)
  case atStart => exact ⟨0, Nat.zero_le _, rfl, by simpa using ho, Stp.refl _ _⟩
  case round =>
    obtain ⟨k, hk, rfl, hor, sr⟩ := hrel
    have hBr : B ≤ wr.heap.size := Nat.le_trans hB4 sr.size
    have hfl := take_flat_length X k
    have hpl : (P ++ (X.take k).flatMap esc).length ≤ 100000000 := by rw [List.length_append]; omega
    by_cases hlt : k < tn
    · have hfs := flat_snoc X k (by omega)
      have hcx : wr.cell? ⟨tb, to_ + k, none⟩ = some (.int .u8 (X[k].toNat : Int)) := by
        rw [(sA.trans sr).below.cell (p := ⟨tb, to_ + k, none⟩) htb, HC.out k hlt, nums_getD X k (by omega)]
      obtain ⟨c, hc⟩ : ∃ c, c = X[k] := ⟨_, rfl⟩
      rw [← hc] at hfs hcx
      have HFS : Hid ((X.take (k + 1)).flatMap esc = (X.take k).flatMap esc ++ esc c) := hfs
      clear hfs hc
      by_cases h92 : c = 92
      · subst h92
        go_wp2_with (at_builtin; refine app_str rfl _ _ rfl B _ _ rfl hor ⟨#[92, 92]⟩ rfl (by show _ + 2 ≤ _; omega) hBr ?_)
        intro v' w' ho' s'
        go_wp2
        go_roundw
        case rel => exact ⟨k + 1, by omega, by go_num, by rw [HFS.out]; simpa [esc_92] using ho', sr.trans s'⟩
        case measure => simp [RowKit.intOf]; omega
      have n92 : ((c.toNat : Int) == 92) = false := ne_num h92
      by_cases h10 : c = 10
      · subst h10
        go_wp2_with (at_builtin; refine app_str rfl _ _ rfl B _ _ rfl hor ⟨#[92, 110]⟩ rfl (by show _ + 2 ≤ _; omega) hBr ?_)
        intro v' w' ho' s'
        go_wp2
        go_roundw
        case rel => exact ⟨k + 1, by omega, by go_num, by rw [HFS.out]; simpa [esc_10] using ho', sr.trans s'⟩
        case measure => simp [RowKit.intOf]; omega
      have n10 : ((c.toNat : Int) == 10) = false := ne_num h10
      by_cases h9 : c = 9
      · subst h9
        go_wp2_with (at_builtin; refine app_str rfl _ _ rfl B _ _ rfl hor ⟨#[92, 116]⟩ rfl (by show _ + 2 ≤ _; omega) hBr ?_)
        intro v' w' ho' s'
        go_wp2
        go_roundw
        case rel => exact ⟨k + 1, by omega, by go_num, by rw [HFS.out]; simpa [esc_9] using ho', sr.trans s'⟩
        case measure => simp [RowKit.intOf]; omega
      have n9 : ((c.toNat : Int) == 9) = false := ne_num h9
      by_cases h13 : c = 13
      · subst h13
        go_wp2_with (at_builtin; refine app_str rfl _ _ rfl B _ _ rfl hor ⟨#[92, 114]⟩ rfl (by show _ + 2 ≤ _; omega) hBr ?_)
        intro v' w' ho' s'
        go_wp2
        go_roundw
        case rel => exact ⟨k + 1, by omega, by go_num, by rw [HFS.out]; simpa [esc_13] using ho', sr.trans s'⟩
        case measure => simp [RowKit.intOf]; omega
      have n13 : ((c.toNat : Int) == 13) = false := ne_num h13
      go_wp2_with (at_builtin; refine app_slice rfl _ _ rfl B _ _ rfl (hor.alloc _) (some ⟨wr.heap.size, 0, none⟩) 1 1 [c] rfl (by simp) rfl (lit_bytes _ [c] _ _ rfl _ rfl) (by show _ + 1 ≤ _; omega) (by simp; omega) ?_)
      intro v' w' ho' s'
      go_wp2
      go_roundw
      case rel => exact ⟨k + 1, by omega, by go_num, by rw [HFS.out, esc_other h92 h10 h9 h13]; simpa using ho', sr.trans (((Stp.refl _ _).alloc hBr _).trans s')⟩
      case measure => simp [RowKit.intOf]; omega
    · go_wp2
      go_ret
      have hkl : k = tn := by omega
      refine ⟨_, rfl, ?_, sA.trans sr⟩
      rw [hkl, List.take_of_length_le (by omega), HP.out] at hor
      simpa [fieldsB, List.append_assoc] using hor

set_option maxHeartbeats 4000000 in
set_option maxRecDepth 100000 in
theorem fields_none (B : Nat) (file kind : ByteArray) (line col : Int) (l0 : -9223372036854775808 ≤ line) (l1 : line ≤ 9223372036854775807) (c0 : -9223372036854775808 ≤ col) (c1 : col ≤ 9223372036854775807)
    (sv : Value) (T : List UInt8) (w : World) (tp : Option Addr) (tc : Nat) (hown : Own w B sv T) (hB : B ≤ w.heap.size) (hlim : T.length + file.size + kind.size ≤ 10000000)
    (htab : Lib.TabBelow Ybad.prog B w tabName .u64 Lib.pow10Tab) :
    Calls Ybad.prog 5 #[sv, .agg #[.string file, .int .i64 line, .int .i64 col], .string kind, .slice tp 0 tc] w fun e w' =>
      ∃ v', e = .returned v' ∧ Own w' B v' (T ++ fieldsB file.data.toList line col kind.data.toList []) ∧ Stp B w w' := by
  have la := Lib.itoa_length_le line l0 l1
  have lb := Lib.itoa_length_le col c0 c1
  have hkz : kind.data.toList.length = kind.size := by rw [Array.length_toList]; rfl
  have hfz : file.data.toList.length = file.size := by rw [Array.length_toList]; rfl
  have hpl : (posB file.data.toList line col).length ≤ file.size + 100 := by
    unfold posB
    split
    all_goals (simp only [List.length_append, List.length_cons, List.length_nil, hfz]; omega)
  have s0 : Stp B w (w.alloc (.cells #[.string file, .int .i64 line, .int .i64 col] 25)) := (Stp.refl _ _).alloc hB _
  have hB0 : B ≤ (w.alloc (.cells #[.string file, .int .i64 line, .int .i64 col] 25)).heap.size := Nat.le_trans hB s0.size
  go_enter Ybad.func5, Ybad.ntmps5
  go_wp2_with fail
  refine (pos_any B file line col l0 l1 c0 c1 _ _ _ (hown.alloc _) hB0 (by omega) (tab_on htab s0)).mono ?_
  rintro e w1 ⟨v1, rfl, ho1, s1⟩
  have hB1 : B ≤ w1.heap.size := Nat.le_trans hB0 s1.size
  go_wp2_with (at_builtin; refine app_slice rfl _ _ rfl B _ _ rfl (ho1.alloc _) (some ⟨w1.heap.size, 0, none⟩) 1 1 [9] rfl (by simp) rfl (lit_bytes _ [9] _ _ rfl _ rfl) (by simp only [List.length_append, List.length_cons, List.length_nil]; omega) (by simp; omega) ?_)
  intro v2 w2 ho2 s2
  have s02 : Stp B w1 w2 := ((Stp.refl _ _).alloc hB1 _).trans s2
  have hB2 : B ≤ w2.heap.size := Nat.le_trans hB1 s02.size
  go_wp2_with (at_builtin; refine app_str rfl _ _ rfl B _ _ rfl ho2 kind rfl (by simp only [List.length_append, List.length_cons, List.length_nil]; omega) hB2 ?_)
  intro v3 w3 ho3 s3
  have hB3 : B ≤ w3.heap.size := Nat.le_trans hB2 s3.size
  go_wp2_with (at_builtin; refine app_slice rfl _ _ rfl B _ _ rfl (ho3.alloc _) (some ⟨w3.heap.size, 0, none⟩) 1 1 [9] rfl (by simp) rfl (lit_bytes _ [9] _ _ rfl _ rfl) (by simp only [List.length_append, List.length_cons, List.length_nil, hkz]; omega) (by simp; omega) ?_)
  intro v4 w4 ho4 s4
  have s04 : Stp B w3 w4 := ((Stp.refl _ _).alloc hB3 _).trans s4
  have hB4 : B ≤ w4.heap.size := Nat.le_trans hB3 s04.size
  have sA : Stp B w w4 := (s0.trans s1).trans (s02.trans (s3.trans s04))
  obtain ⟨P, hP⟩ : ∃ P, P = T ++ (posB file.data.toList line col ++ 9 :: (kind.data.toList ++ [9])) := ⟨_, rfl⟩
  have ho : Own w4 B v4 P := by rw [hP]; simpa [List.append_assoc] using ho4
  have hPl : P.length ≤ 20000000 := by rw [hP]; simp only [List.length_append, List.length_cons, List.length_nil, hkz]; omega
  have HP : Hid (P = T ++ (posB file.data.toList line col ++ 9 :: (kind.data.toList ++ [9]))) := hP
  clear hP
  clear ho1 s1 hB1 ho2 s2 s02 hB2 ho3 s3 hB3 ho4 s4 s04 s0 hB0 hpl la lb hown htab
  go_wp2
  refine wp_loop_rounds 1 ?_
  rw [rounds_succ]
  go_wp2
  go_ret
  refine ⟨_, rfl, ?_, sA⟩
  rw [HP.out] at ho
  simpa [fieldsB, List.append_assoc] using ho

theorem fields_any (B : Nat) (file kind : ByteArray) (line col : Int) (l0 : -9223372036854775808 ≤ line) (l1 : line ≤ 9223372036854775807) (c0 : -9223372036854775808 ≤ col) (c1 : col ≤ 9223372036854775807)
    (sv : Value) (T X : List UInt8) (w : World) (tp : Option Addr) (tn tc : Nat) (hown : Own w B sv T) (hB : B ≤ w.heap.size) (hlim : T.length + file.size + kind.size + tn ≤ 10000000)
    (htab : Lib.TabBelow Ybad.prog B w tabName .u64 Lib.pow10Tab) (hX : Src B w tp tn X) :
    Calls Ybad.prog 5 #[sv, .agg #[.string file, .int .i64 line, .int .i64 col], .string kind, .slice tp tn tc] w fun e w' =>
      ∃ v', e = .returned v' ∧ Own w' B v' (T ++ fieldsB file.data.toList line col kind.data.toList X) ∧ Stp B w w' := by
  obtain ⟨hl, rfl | ⟨b, o, rfl, hlt, hc⟩⟩ := hX
  · obtain rfl : X = [] := List.eq_nil_of_length_eq_zero hl
    exact fields_none B file kind line col l0 l1 c0 c1 sv T w tp tc hown hB (by omega) htab
  · exact fields_some B file kind line col l0 l1 c0 c1 sv T X w b o tn tc hown hB (by omega) htab hl hlt hc

end Go.Proofs.YbulkiiyDoor
