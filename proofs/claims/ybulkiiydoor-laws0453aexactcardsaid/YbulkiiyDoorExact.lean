/-
  THE WALK OF LawS0453AExact.
-/
import Derived.Test.YbulkiiyDoorEqual
import Derived.Test.YbulkiiyDoorDecWalk
namespace Go.Proofs.YbulkiiyDoor
open Go.RowKit Go.Lib

set_option maxHeartbeats 8000000 in
set_option maxRecDepth 100000 in
theorem exact_ft (bp : Option Addr) (bn bc : Nat) (file : ByteArray) (line col : Int) (kind : ByteArray) (tb to_ tn tc : Nat) (X Bs : List UInt8) (w : World)
    (l0 : -9223372036854775808 ≤ line) (l1 : line ≤ 9223372036854775807) (c0 : -9223372036854775808 ≤ col) (c1 : col ≤ 9223372036854775807)
    (htab : Lib.TabBelow Ybad.prog w.heap.size w tabName .u64 Lib.pow10Tab) (hbs : Src w.heap.size w bp bn Bs) (hbp : bp = none → bn = 0 ∧ bc = 0)
    (hX : X.length = tn) (htb : tb < w.heap.size) (hcell : ∀ i, i < tn → w.cell? ⟨tb, to_ + i, none⟩ = some (.int .u8 ((nums X).getD i 0)))
    (hf : file.toList.isEmpty = false) (b2 : file.size ≤ 1024)
    (b1 : bn ≤ 1024) (b3 : kind.size ≤ 1024) (b4 : tn ≤ 1024) :
    Calls Ybad.prog 3 #[.slice bp bn bc, .string file, .int .i64 line, .int .i64 col, .string kind, .slice (some ⟨tb, to_, none⟩) tn tc] w fun e w' => e = .returned (.bool true) ∧ Below w.heap.size w w' := by
  have la := Lib.itoa_length_le line l0 l1
  have lb := Lib.itoa_length_le col c0 c1
  have hBs : Bs.length = bn := hbs.1
  have hkz : kind.data.toList.length = kind.size := by rw [Array.length_toList]; rfl
  have hfz : file.data.toList.length = file.size := by rw [Array.length_toList]; rfl
  have HF : Hid (file.data.toList ≠ []) := by
    intro e
    rw [Lib.toList_data, e] at hf
    cases hf
  have hSx : Src w.heap.size w (some ⟨tb, to_, none⟩) tn X := ⟨hX, .inr ⟨tb, to_, rfl, htb, hcell⟩⟩
  have HC : Hid (∀ i, i < tn → w.cell? ⟨tb, to_ + i, none⟩ = some (.int .u8 ((nums X).getD i 0))) := hcell
  clear hcell
  have HBS := hbs
  clear hbs
  go_enter Ybad.func3, Ybad.ntmps3
  go_wp2_with (at_builtin; refine app_slice rfl _ _ rfl w.heap.size _ [] rfl (Own.nil _ _) bp bn bc Bs rfl hbp hBs HBS.bytes (by simp only [List.length_nil]; omega) (Nat.le_refl _) ?_)
  intro va wa hoa sa
  have hoa : Own wa w.heap.size va Bs := by simpa using hoa
  have hBa : w.heap.size ≤ wa.heap.size := sa.size
  go_wp2_with fail
  refine (fields_any w.heap.size file kind line col l0 l1 c0 c1 va Bs X wa _ tn tc hoa hBa (by omega) (tab_on htab sa) (hSx.on sa.below)).mono ?_
  rintro e wg ⟨vg, rfl, hog, sg⟩
  have sg0 : Stp w.heap.size w wg := sa.trans sg
  have hsz : w.heap.size ≤ wg.heap.size := sg0.size
  have hbs2 : Src wg.heap.size wg bp bn Bs := (HBS.on sg0.below).up hsz
  clear hoa sa hBa sg
  go_wp2_with (at_builtin; refine app_slice rfl _ _ rfl wg.heap.size _ [] rfl (Own.nil _ _) bp bn bc Bs rfl hbp hBs hbs2.bytes (by simp only [List.length_nil]; omega) (Nat.le_refl _) ?_)
  intro v0 w0 ho0 s0
  have ho0 : Own w0 wg.heap.size v0 Bs := by simpa using ho0
  have hB0 : wg.heap.size ≤ w0.heap.size := s0.size
  obtain ⟨T0, hT0⟩ : ∃ T0, T0 = Bs := ⟨_, rfl⟩
  rw [← hT0] at ho0
  have hn0 : T0.length ≤ 1024 := by rw [hT0]; omega
  have HT0 : Hid (T0 = Bs) := hT0
  clear hT0
  have sT0 : Stp wg.heap.size w0 w0 := Stp.refl _ _
  go_wp2_with (at_builtin; refine app_str rfl _ _ rfl wg.heap.size _ _ rfl ho0 file rfl (by omega) hB0 ?_)
  intro v1 w1 ho1 s1
  have hB1 : wg.heap.size ≤ w1.heap.size := Nat.le_trans hB0 s1.size
  obtain ⟨T1, hT1⟩ : ∃ T1, T1 = T0 ++ file.data.toList := ⟨_, rfl⟩
  have ho1 : Own w1 wg.heap.size v1 T1 := by rw [hT1]; simpa using ho1
  have hl1 : T1.length = T0.length + (file.data.toList : List UInt8).length := by rw [hT1, List.length_append]
  have HT1 : Hid (T1 = T0 ++ file.data.toList) := hT1
  clear hT1
  have hn1 : T1.length ≤ 2048 := by rw [hl1, hfz]; omega
  clear hl1
  have sT1 : Stp wg.heap.size w0 w1 := sT0.trans s1
  clear s1
  go_wp2_with (at_builtin; refine app_slice rfl _ _ rfl wg.heap.size _ _ rfl (ho1.alloc _) (some ⟨w1.heap.size, 0, none⟩) 1 1 [58] rfl (by simp) rfl (lit_bytes _ [58] _ _ rfl _ rfl) (by show _ + 1 ≤ _; omega) (by simp; omega) ?_)
  intro v2 w2 ho2 s2
  have s2 : Stp wg.heap.size w1 w2 := ((Stp.refl _ _).alloc hB1 _).trans s2
  have hB2 : wg.heap.size ≤ w2.heap.size := Nat.le_trans hB1 s2.size
  obtain ⟨T2, hT2⟩ : ∃ T2, T2 = T1 ++ [58] := ⟨_, rfl⟩
  have ho2 : Own w2 wg.heap.size v2 T2 := by rw [hT2]; simpa using ho2
  have hl2 : T2.length = T1.length + ([58] : List UInt8).length := by rw [hT2, List.length_append]
  have HT2 : Hid (T2 = T1 ++ [58]) := hT2
  clear hT2
  have hn2 : T2.length ≤ 3072 := by rw [hl2]; show _ + 1 ≤ _; omega
  clear hl2
  have sT2 : Stp wg.heap.size w0 w2 := sT1.trans s2
  clear s2
  go_wp2_with fail
  refine (dec_any wg.heap.size line l0 l1 _ _ _ ho2 hB2 (by omega)).mono ?_
  rintro e w3 ⟨v3, rfl, ho3, s3⟩
  have hB3 : wg.heap.size ≤ w3.heap.size := Nat.le_trans hB2 s3.size
  obtain ⟨T3, hT3⟩ : ∃ T3, T3 = T2 ++ Lib.itoa line := ⟨_, rfl⟩
  have ho3 : Own w3 wg.heap.size v3 T3 := by rw [hT3]; simpa using ho3
  have hl3 : T3.length = T2.length + (Lib.itoa line : List UInt8).length := by rw [hT3, List.length_append]
  have HT3 : Hid (T3 = T2 ++ Lib.itoa line) := hT3
  clear hT3
  have hn3 : T3.length ≤ 4096 := by rw [hl3]; omega
  clear hl3
  have sT3 : Stp wg.heap.size w0 w3 := sT2.trans s3
  clear s3
  go_wp2_with (at_builtin; refine app_slice rfl _ _ rfl wg.heap.size _ _ rfl (ho3.alloc _) (some ⟨w3.heap.size, 0, none⟩) 1 1 [58] rfl (by simp) rfl (lit_bytes _ [58] _ _ rfl _ rfl) (by show _ + 1 ≤ _; omega) (by simp; omega) ?_)
  intro v4 w4 ho4 s4
  have s4 : Stp wg.heap.size w3 w4 := ((Stp.refl _ _).alloc hB3 _).trans s4
  have hB4 : wg.heap.size ≤ w4.heap.size := Nat.le_trans hB3 s4.size
  obtain ⟨T4, hT4⟩ : ∃ T4, T4 = T3 ++ [58] := ⟨_, rfl⟩
  have ho4 : Own w4 wg.heap.size v4 T4 := by rw [hT4]; simpa using ho4
  have hl4 : T4.length = T3.length + ([58] : List UInt8).length := by rw [hT4, List.length_append]
  have HT4 : Hid (T4 = T3 ++ [58]) := hT4
  clear hT4
  have hn4 : T4.length ≤ 5120 := by rw [hl4]; show _ + 1 ≤ _; omega
  clear hl4
  have sT4 : Stp wg.heap.size w0 w4 := sT3.trans s4
  clear s4
  go_wp2_with fail
  refine (dec_any wg.heap.size col c0 c1 _ _ _ ho4 hB4 (by omega)).mono ?_
  rintro e w5 ⟨v5, rfl, ho5, s5⟩
  have hB5 : wg.heap.size ≤ w5.heap.size := Nat.le_trans hB4 s5.size
  obtain ⟨T5, hT5⟩ : ∃ T5, T5 = T4 ++ Lib.itoa col := ⟨_, rfl⟩
  have ho5 : Own w5 wg.heap.size v5 T5 := by rw [hT5]; simpa using ho5
  have hl5 : T5.length = T4.length + (Lib.itoa col : List UInt8).length := by rw [hT5, List.length_append]
  have HT5 : Hid (T5 = T4 ++ Lib.itoa col) := hT5
  clear hT5
  have hn5 : T5.length ≤ 6144 := by rw [hl5]; omega
  clear hl5
  have sT5 : Stp wg.heap.size w0 w5 := sT4.trans s5
  clear s5
  go_wp2_with (at_builtin; refine app_slice rfl _ _ rfl wg.heap.size _ _ rfl (ho5.alloc _) (some ⟨w5.heap.size, 0, none⟩) 1 1 [9] rfl (by simp) rfl (lit_bytes _ [9] _ _ rfl _ rfl) (by show _ + 1 ≤ _; omega) (by simp; omega) ?_)
  intro v6 w6 ho6 s6
  have s6 : Stp wg.heap.size w5 w6 := ((Stp.refl _ _).alloc hB5 _).trans s6
  have hB6 : wg.heap.size ≤ w6.heap.size := Nat.le_trans hB5 s6.size
  obtain ⟨T6, hT6⟩ : ∃ T6, T6 = T5 ++ [9] := ⟨_, rfl⟩
  have ho6 : Own w6 wg.heap.size v6 T6 := by rw [hT6]; simpa using ho6
  have hl6 : T6.length = T5.length + ([9] : List UInt8).length := by rw [hT6, List.length_append]
  have HT6 : Hid (T6 = T5 ++ [9]) := hT6
  clear hT6
  have hn6 : T6.length ≤ 7168 := by rw [hl6]; show _ + 1 ≤ _; omega
  clear hl6
  have sT6 : Stp wg.heap.size w0 w6 := sT5.trans s6
  clear s6
  go_wp2_with (at_builtin; refine app_str rfl _ _ rfl wg.heap.size _ _ rfl ho6 kind rfl (by omega) hB6 ?_)
  intro v7 w7 ho7 s7
  have hB7 : wg.heap.size ≤ w7.heap.size := Nat.le_trans hB6 s7.size
  obtain ⟨T7, hT7⟩ : ∃ T7, T7 = T6 ++ kind.data.toList := ⟨_, rfl⟩
  have ho7 : Own w7 wg.heap.size v7 T7 := by rw [hT7]; simpa using ho7
  have hl7 : T7.length = T6.length + (kind.data.toList : List UInt8).length := by rw [hT7, List.length_append]
  have HT7 : Hid (T7 = T6 ++ kind.data.toList) := hT7
  clear hT7
  have hn7 : T7.length ≤ 8192 := by rw [hl7, hkz]; omega
  clear hl7
  have sT7 : Stp wg.heap.size w0 w7 := sT6.trans s7
  clear s7
  go_wp2_with (at_builtin; refine app_slice rfl _ _ rfl wg.heap.size _ _ rfl (ho7.alloc _) (some ⟨w7.heap.size, 0, none⟩) 1 1 [9] rfl (by simp) rfl (lit_bytes _ [9] _ _ rfl _ rfl) (by show _ + 1 ≤ _; omega) (by simp; omega) ?_)
  intro v8 w8 ho8 s8
  have s8 : Stp wg.heap.size w7 w8 := ((Stp.refl _ _).alloc hB7 _).trans s8
  have hB8 : wg.heap.size ≤ w8.heap.size := Nat.le_trans hB7 s8.size
  obtain ⟨T8, hT8⟩ : ∃ T8, T8 = T7 ++ [9] := ⟨_, rfl⟩
  have ho8 : Own w8 wg.heap.size v8 T8 := by rw [hT8]; simpa using ho8
  have hl8 : T8.length = T7.length + ([9] : List UInt8).length := by rw [hT8, List.length_append]
  have HT8 : Hid (T8 = T7 ++ [9]) := hT8
  clear hT8
  have hn8 : T8.length ≤ 9216 := by rw [hl8]; show _ + 1 ≤ _; omega
  clear hl8
  have sT8 : Stp wg.heap.size w0 w8 := sT7.trans s8
  clear s8
  have HP : Hid (T8 ++ X.flatMap esc = Bs ++ fieldsB file.data.toList line col kind.data.toList X) := by
    show _ = _
    rw [HT8.out, HT7.out, HT6.out, HT5.out, HT4.out, HT3.out, HT2.out, HT1.out, HT0.out]
    unfold fieldsB posB
    rw [if_neg HF.out]
    simp [List.append_assoc]
  clear HT0 HT1 HT2 HT3 HT4 HT5 HT6 HT7 HT8
  go_wp2
  go_loopw [15, 16] (fun v i wr => ∃ k : Nat, k ≤ tn ∧ i = .int .i64 k ∧ Own wr wg.heap.size v (T8 ++ (X.take k).flatMap esc) ∧ Stp wg.heap.size w0 wr) (fun _ i _ => tn - (RowKit.intOf i).toNat)
  case atStart => exact ⟨0, Nat.zero_le _, rfl, by simpa using ho8, sT8⟩
  case round =>
    obtain ⟨k, hk, rfl, hor, sr⟩ := hrel
    have hBr : wg.heap.size ≤ wr.heap.size := Nat.le_trans hB0 sr.size
    have hfl := take_flat_length X k
    have hpl : (T8 ++ (X.take k).flatMap esc).length ≤ 100000000 := by rw [List.length_append]; omega
    have hbel : Below w.heap.size w wr := sg0.below.trans ((s0.trans sr).below.mono hsz)
    by_cases hlt : k < tn
    · have hfs := flat_snoc X k (by omega)
      have hcx : wr.cell? ⟨tb, to_ + k, none⟩ = some (.int .u8 (X[k].toNat : Int)) := by
        rw [hbel.cell (p := ⟨tb, to_ + k, none⟩) htb, HC.out k hlt, nums_getD X k (by omega)]
      obtain ⟨c, hc⟩ : ∃ c, c = X[k] := ⟨_, rfl⟩
      rw [← hc] at hfs hcx
      have HFS : Hid ((X.take (k + 1)).flatMap esc = (X.take k).flatMap esc ++ esc c) := hfs
      clear hfs hc
      by_cases h92 : c = 92
      · subst h92
        go_wp2_with (at_builtin; refine app_slice rfl _ _ rfl wg.heap.size _ _ rfl (hor.alloc _) (some ⟨wr.heap.size, 0, none⟩) 2 2 [92, 92] rfl (by simp) rfl (lit_bytes _ [92, 92] _ _ rfl _ rfl) (by show _ + 2 ≤ _; omega) (by simp; omega) ?_)
        intro v' w' ho' s'
        go_wp2
        go_roundw
        case rel => exact ⟨k + 1, by omega, by go_num, by rw [HFS.out]; simpa [esc_92] using ho', sr.trans (((Stp.refl _ _).alloc hBr _).trans s')⟩
        case measure => simp [RowKit.intOf]; omega
      have n92 : ((c.toNat : Int) == 92) = false := ne_num h92
      by_cases h10 : c = 10
      · subst h10
        go_wp2_with (at_builtin; refine app_slice rfl _ _ rfl wg.heap.size _ _ rfl (hor.alloc _) (some ⟨wr.heap.size, 0, none⟩) 2 2 [92, 110] rfl (by simp) rfl (lit_bytes _ [92, 110] _ _ rfl _ rfl) (by show _ + 2 ≤ _; omega) (by simp; omega) ?_)
        intro v' w' ho' s'
        go_wp2
        go_roundw
        case rel => exact ⟨k + 1, by omega, by go_num, by rw [HFS.out]; simpa [esc_10] using ho', sr.trans (((Stp.refl _ _).alloc hBr _).trans s')⟩
        case measure => simp [RowKit.intOf]; omega
      have n10 : ((c.toNat : Int) == 10) = false := ne_num h10
      by_cases h9 : c = 9
      · subst h9
        go_wp2_with (at_builtin; refine app_slice rfl _ _ rfl wg.heap.size _ _ rfl (hor.alloc _) (some ⟨wr.heap.size, 0, none⟩) 2 2 [92, 116] rfl (by simp) rfl (lit_bytes _ [92, 116] _ _ rfl _ rfl) (by show _ + 2 ≤ _; omega) (by simp; omega) ?_)
        intro v' w' ho' s'
        go_wp2
        go_roundw
        case rel => exact ⟨k + 1, by omega, by go_num, by rw [HFS.out]; simpa [esc_9] using ho', sr.trans (((Stp.refl _ _).alloc hBr _).trans s')⟩
        case measure => simp [RowKit.intOf]; omega
      have n9 : ((c.toNat : Int) == 9) = false := ne_num h9
      by_cases h13 : c = 13
      · subst h13
        go_wp2_with (at_builtin; refine app_slice rfl _ _ rfl wg.heap.size _ _ rfl (hor.alloc _) (some ⟨wr.heap.size, 0, none⟩) 2 2 [92, 114] rfl (by simp) rfl (lit_bytes _ [92, 114] _ _ rfl _ rfl) (by show _ + 2 ≤ _; omega) (by simp; omega) ?_)
        intro v' w' ho' s'
        go_wp2
        go_roundw
        case rel => exact ⟨k + 1, by omega, by go_num, by rw [HFS.out]; simpa [esc_13] using ho', sr.trans (((Stp.refl _ _).alloc hBr _).trans s')⟩
        case measure => simp [RowKit.intOf]; omega
      have n13 : ((c.toNat : Int) == 13) = false := ne_num h13
      go_wp2_with (at_builtin; refine app_slice rfl _ _ rfl wg.heap.size _ _ rfl (hor.alloc _) (some ⟨wr.heap.size, 0, none⟩) 1 1 [c] rfl (by simp) rfl (lit_bytes _ [c] _ _ rfl _ rfl) (by show _ + 1 ≤ _; omega) (by simp; omega) ?_)
      intro v' w' ho' s'
      go_wp2
      go_roundw
      case rel => exact ⟨k + 1, by omega, by go_num, by rw [HFS.out, esc_other h92 h10 h9 h13]; simpa using ho', sr.trans (((Stp.refl _ _).alloc hBr _).trans s')⟩
      case measure => simp [RowKit.intOf]; omega
    · have hkl : k = tn := by omega
      rw [hkl, List.take_of_length_le (by omega), HP.out] at hor
      have hog2 := hog.later (s0.trans sr).below (Nat.le_refl _)
      go_wp2_with fail
      refine (equal_own _ _ _ _ _ _ _ hog2 hor).mono ?_
      rintro e w' ⟨rfl, rfl⟩
      go_wp2
      go_ret
      exact ⟨by simp, hbel⟩

set_option maxHeartbeats 8000000 in
set_option maxRecDepth 100000 in
theorem exact_et (bp : Option Addr) (bn bc : Nat) (line col : Int) (kind : ByteArray) (tb to_ tn tc : Nat) (X Bs : List UInt8) (w : World)
    (l0 : -9223372036854775808 ≤ line) (l1 : line ≤ 9223372036854775807) (c0 : -9223372036854775808 ≤ col) (c1 : col ≤ 9223372036854775807)
    (htab : Lib.TabBelow Ybad.prog w.heap.size w tabName .u64 Lib.pow10Tab) (hbs : Src w.heap.size w bp bn Bs) (hbp : bp = none → bn = 0 ∧ bc = 0)
    (hX : X.length = tn) (htb : tb < w.heap.size) (hcell : ∀ i, i < tn → w.cell? ⟨tb, to_ + i, none⟩ = some (.int .u8 ((nums X).getD i 0)))
    (b1 : bn ≤ 1024) (b3 : kind.size ≤ 1024) (b4 : tn ≤ 1024) :
    Calls Ybad.prog 3 #[.slice bp bn bc, .string ⟨#[]⟩, .int .i64 line, .int .i64 col, .string kind, .slice (some ⟨tb, to_, none⟩) tn tc] w fun e w' => e = .returned (.bool true) ∧ Below w.heap.size w w' := by
  have la := Lib.itoa_length_le line l0 l1
  have lb := Lib.itoa_length_le col c0 c1
  have hBs : Bs.length = bn := hbs.1
  have hkz : kind.data.toList.length = kind.size := by rw [Array.length_toList]; rfl
  have hSx : Src w.heap.size w (some ⟨tb, to_, none⟩) tn X := ⟨hX, .inr ⟨tb, to_, rfl, htb, hcell⟩⟩
  have HC : Hid (∀ i, i < tn → w.cell? ⟨tb, to_ + i, none⟩ = some (.int .u8 ((nums X).getD i 0))) := hcell
  clear hcell
  have HBS := hbs
  clear hbs
  go_enter Ybad.func3, Ybad.ntmps3
  go_wp2_with (at_builtin; refine app_slice rfl _ _ rfl w.heap.size _ [] rfl (Own.nil _ _) bp bn bc Bs rfl hbp hBs HBS.bytes (by simp only [List.length_nil]; omega) (Nat.le_refl _) ?_)
  intro va wa hoa sa
  have hoa : Own wa w.heap.size va Bs := by simpa using hoa
  have hBa : w.heap.size ≤ wa.heap.size := sa.size
  go_wp2_with fail
  refine (fields_any w.heap.size ⟨#[]⟩ kind line col l0 l1 c0 c1 va Bs X wa _ tn tc hoa hBa (by show Bs.length + 0 + kind.size + _ ≤ _; omega) (tab_on htab sa) (hSx.on sa.below)).mono ?_
  rintro e wg ⟨vg, rfl, hog, sg⟩
  have sg0 : Stp w.heap.size w wg := sa.trans sg
  have hsz : w.heap.size ≤ wg.heap.size := sg0.size
  have hbs2 : Src wg.heap.size wg bp bn Bs := (HBS.on sg0.below).up hsz
  clear hoa sa hBa sg
  go_wp2_with (at_builtin; refine app_slice rfl _ _ rfl wg.heap.size _ [] rfl (Own.nil _ _) bp bn bc Bs rfl hbp hBs hbs2.bytes (by simp only [List.length_nil]; omega) (Nat.le_refl _) ?_)
  intro v0 w0 ho0 s0
  have ho0 : Own w0 wg.heap.size v0 Bs := by simpa using ho0
  have hB0 : wg.heap.size ≤ w0.heap.size := s0.size
  obtain ⟨T0, hT0⟩ : ∃ T0, T0 = Bs := ⟨_, rfl⟩
  rw [← hT0] at ho0
  have hn0 : T0.length ≤ 1024 := by rw [hT0]; omega
  have HT0 : Hid (T0 = Bs) := hT0
  clear hT0
  have sT0 : Stp wg.heap.size w0 w0 := Stp.refl _ _
  go_wp2_with fail
  refine (dec_any wg.heap.size line l0 l1 _ _ _ ho0 hB0 (by omega)).mono ?_
  rintro e w1 ⟨v1, rfl, ho1, s1⟩
  have hB1 : wg.heap.size ≤ w1.heap.size := Nat.le_trans hB0 s1.size
  obtain ⟨T1, hT1⟩ : ∃ T1, T1 = T0 ++ Lib.itoa line := ⟨_, rfl⟩
  have ho1 : Own w1 wg.heap.size v1 T1 := by rw [hT1]; simpa using ho1
  have hl1 : T1.length = T0.length + (Lib.itoa line : List UInt8).length := by rw [hT1, List.length_append]
  have HT1 : Hid (T1 = T0 ++ Lib.itoa line) := hT1
  clear hT1
  have hn1 : T1.length ≤ 2048 := by rw [hl1]; omega
  clear hl1
  have sT1 : Stp wg.heap.size w0 w1 := sT0.trans s1
  clear s1
  go_wp2_with (at_builtin; refine app_slice rfl _ _ rfl wg.heap.size _ _ rfl (ho1.alloc _) (some ⟨w1.heap.size, 0, none⟩) 1 1 [58] rfl (by simp) rfl (lit_bytes _ [58] _ _ rfl _ rfl) (by show _ + 1 ≤ _; omega) (by simp; omega) ?_)
  intro v2 w2 ho2 s2
  have s2 : Stp wg.heap.size w1 w2 := ((Stp.refl _ _).alloc hB1 _).trans s2
  have hB2 : wg.heap.size ≤ w2.heap.size := Nat.le_trans hB1 s2.size
  obtain ⟨T2, hT2⟩ : ∃ T2, T2 = T1 ++ [58] := ⟨_, rfl⟩
  have ho2 : Own w2 wg.heap.size v2 T2 := by rw [hT2]; simpa using ho2
  have hl2 : T2.length = T1.length + ([58] : List UInt8).length := by rw [hT2, List.length_append]
  have HT2 : Hid (T2 = T1 ++ [58]) := hT2
  clear hT2
  have hn2 : T2.length ≤ 3072 := by rw [hl2]; show _ + 1 ≤ _; omega
  clear hl2
  have sT2 : Stp wg.heap.size w0 w2 := sT1.trans s2
  clear s2
  go_wp2_with fail
  refine (dec_any wg.heap.size col c0 c1 _ _ _ ho2 hB2 (by omega)).mono ?_
  rintro e w3 ⟨v3, rfl, ho3, s3⟩
  have hB3 : wg.heap.size ≤ w3.heap.size := Nat.le_trans hB2 s3.size
  obtain ⟨T3, hT3⟩ : ∃ T3, T3 = T2 ++ Lib.itoa col := ⟨_, rfl⟩
  have ho3 : Own w3 wg.heap.size v3 T3 := by rw [hT3]; simpa using ho3
  have hl3 : T3.length = T2.length + (Lib.itoa col : List UInt8).length := by rw [hT3, List.length_append]
  have HT3 : Hid (T3 = T2 ++ Lib.itoa col) := hT3
  clear hT3
  have hn3 : T3.length ≤ 4096 := by rw [hl3]; omega
  clear hl3
  have sT3 : Stp wg.heap.size w0 w3 := sT2.trans s3
  clear s3
  go_wp2_with (at_builtin; refine app_slice rfl _ _ rfl wg.heap.size _ _ rfl (ho3.alloc _) (some ⟨w3.heap.size, 0, none⟩) 1 1 [9] rfl (by simp) rfl (lit_bytes _ [9] _ _ rfl _ rfl) (by show _ + 1 ≤ _; omega) (by simp; omega) ?_)
  intro v4 w4 ho4 s4
  have s4 : Stp wg.heap.size w3 w4 := ((Stp.refl _ _).alloc hB3 _).trans s4
  have hB4 : wg.heap.size ≤ w4.heap.size := Nat.le_trans hB3 s4.size
  obtain ⟨T4, hT4⟩ : ∃ T4, T4 = T3 ++ [9] := ⟨_, rfl⟩
  have ho4 : Own w4 wg.heap.size v4 T4 := by rw [hT4]; simpa using ho4
  have hl4 : T4.length = T3.length + ([9] : List UInt8).length := by rw [hT4, List.length_append]
  have HT4 : Hid (T4 = T3 ++ [9]) := hT4
  clear hT4
  have hn4 : T4.length ≤ 5120 := by rw [hl4]; show _ + 1 ≤ _; omega
  clear hl4
  have sT4 : Stp wg.heap.size w0 w4 := sT3.trans s4
  clear s4
  go_wp2_with (at_builtin; refine app_str rfl _ _ rfl wg.heap.size _ _ rfl ho4 kind rfl (by omega) hB4 ?_)
  intro v5 w5 ho5 s5
  have hB5 : wg.heap.size ≤ w5.heap.size := Nat.le_trans hB4 s5.size
  obtain ⟨T5, hT5⟩ : ∃ T5, T5 = T4 ++ kind.data.toList := ⟨_, rfl⟩
  have ho5 : Own w5 wg.heap.size v5 T5 := by rw [hT5]; simpa using ho5
  have hl5 : T5.length = T4.length + (kind.data.toList : List UInt8).length := by rw [hT5, List.length_append]
  have HT5 : Hid (T5 = T4 ++ kind.data.toList) := hT5
  clear hT5
  have hn5 : T5.length ≤ 6144 := by rw [hl5, hkz]; omega
  clear hl5
  have sT5 : Stp wg.heap.size w0 w5 := sT4.trans s5
  clear s5
  go_wp2_with (at_builtin; refine app_slice rfl _ _ rfl wg.heap.size _ _ rfl (ho5.alloc _) (some ⟨w5.heap.size, 0, none⟩) 1 1 [9] rfl (by simp) rfl (lit_bytes _ [9] _ _ rfl _ rfl) (by show _ + 1 ≤ _; omega) (by simp; omega) ?_)
  intro v6 w6 ho6 s6
  have s6 : Stp wg.heap.size w5 w6 := ((Stp.refl _ _).alloc hB5 _).trans s6
  have hB6 : wg.heap.size ≤ w6.heap.size := Nat.le_trans hB5 s6.size
  obtain ⟨T6, hT6⟩ : ∃ T6, T6 = T5 ++ [9] := ⟨_, rfl⟩
  have ho6 : Own w6 wg.heap.size v6 T6 := by rw [hT6]; simpa using ho6
  have hl6 : T6.length = T5.length + ([9] : List UInt8).length := by rw [hT6, List.length_append]
  have HT6 : Hid (T6 = T5 ++ [9]) := hT6
  clear hT6
  have hn6 : T6.length ≤ 7168 := by rw [hl6]; show _ + 1 ≤ _; omega
  clear hl6
  have sT6 : Stp wg.heap.size w0 w6 := sT5.trans s6
  clear s6
  have HP : Hid (T6 ++ X.flatMap esc = Bs ++ fieldsB [] line col kind.data.toList X) := by
    show _ = _
    rw [HT6.out, HT5.out, HT4.out, HT3.out, HT2.out, HT1.out, HT0.out]
    unfold fieldsB posB
    rw [if_pos rfl]
    simp [List.append_assoc]
  clear HT0 HT1 HT2 HT3 HT4 HT5 HT6
  go_wp2
  go_loopw [15, 16] (fun v i wr => ∃ k : Nat, k ≤ tn ∧ i = .int .i64 k ∧ Own wr wg.heap.size v (T6 ++ (X.take k).flatMap esc) ∧ Stp wg.heap.size w0 wr) (fun _ i _ => tn - (RowKit.intOf i).toNat)
  case atStart => exact ⟨0, Nat.zero_le _, rfl, by simpa using ho6, sT6⟩
  case round =>
    obtain ⟨k, hk, rfl, hor, sr⟩ := hrel
    have hBr : wg.heap.size ≤ wr.heap.size := Nat.le_trans hB0 sr.size
    have hfl := take_flat_length X k
    have hpl : (T6 ++ (X.take k).flatMap esc).length ≤ 100000000 := by rw [List.length_append]; omega
    have hbel : Below w.heap.size w wr := sg0.below.trans ((s0.trans sr).below.mono hsz)
    by_cases hlt : k < tn
    · have hfs := flat_snoc X k (by omega)
      have hcx : wr.cell? ⟨tb, to_ + k, none⟩ = some (.int .u8 (X[k].toNat : Int)) := by
        rw [hbel.cell (p := ⟨tb, to_ + k, none⟩) htb, HC.out k hlt, nums_getD X k (by omega)]
      obtain ⟨c, hc⟩ : ∃ c, c = X[k] := ⟨_, rfl⟩
      rw [← hc] at hfs hcx
      have HFS : Hid ((X.take (k + 1)).flatMap esc = (X.take k).flatMap esc ++ esc c) := hfs
      clear hfs hc
      by_cases h92 : c = 92
      · subst h92
        go_wp2_with (at_builtin; refine app_slice rfl _ _ rfl wg.heap.size _ _ rfl (hor.alloc _) (some ⟨wr.heap.size, 0, none⟩) 2 2 [92, 92] rfl (by simp) rfl (lit_bytes _ [92, 92] _ _ rfl _ rfl) (by show _ + 2 ≤ _; omega) (by simp; omega) ?_)
        intro v' w' ho' s'
        go_wp2
        go_roundw
        case rel => exact ⟨k + 1, by omega, by go_num, by rw [HFS.out]; simpa [esc_92] using ho', sr.trans (((Stp.refl _ _).alloc hBr _).trans s')⟩
        case measure => simp [RowKit.intOf]; omega
      have n92 : ((c.toNat : Int) == 92) = false := ne_num h92
      by_cases h10 : c = 10
      · subst h10
        go_wp2_with (at_builtin; refine app_slice rfl _ _ rfl wg.heap.size _ _ rfl (hor.alloc _) (some ⟨wr.heap.size, 0, none⟩) 2 2 [92, 110] rfl (by simp) rfl (lit_bytes _ [92, 110] _ _ rfl _ rfl) (by show _ + 2 ≤ _; omega) (by simp; omega) ?_)
        intro v' w' ho' s'
        go_wp2
        go_roundw
        case rel => exact ⟨k + 1, by omega, by go_num, by rw [HFS.out]; simpa [esc_10] using ho', sr.trans (((Stp.refl _ _).alloc hBr _).trans s')⟩
        case measure => simp [RowKit.intOf]; omega
      have n10 : ((c.toNat : Int) == 10) = false := ne_num h10
      by_cases h9 : c = 9
      · subst h9
        go_wp2_with (at_builtin; refine app_slice rfl _ _ rfl wg.heap.size _ _ rfl (hor.alloc _) (some ⟨wr.heap.size, 0, none⟩) 2 2 [92, 116] rfl (by simp) rfl (lit_bytes _ [92, 116] _ _ rfl _ rfl) (by show _ + 2 ≤ _; omega) (by simp; omega) ?_)
        intro v' w' ho' s'
        go_wp2
        go_roundw
        case rel => exact ⟨k + 1, by omega, by go_num, by rw [HFS.out]; simpa [esc_9] using ho', sr.trans (((Stp.refl _ _).alloc hBr _).trans s')⟩
        case measure => simp [RowKit.intOf]; omega
      have n9 : ((c.toNat : Int) == 9) = false := ne_num h9
      by_cases h13 : c = 13
      · subst h13
        go_wp2_with (at_builtin; refine app_slice rfl _ _ rfl wg.heap.size _ _ rfl (hor.alloc _) (some ⟨wr.heap.size, 0, none⟩) 2 2 [92, 114] rfl (by simp) rfl (lit_bytes _ [92, 114] _ _ rfl _ rfl) (by show _ + 2 ≤ _; omega) (by simp; omega) ?_)
        intro v' w' ho' s'
        go_wp2
        go_roundw
        case rel => exact ⟨k + 1, by omega, by go_num, by rw [HFS.out]; simpa [esc_13] using ho', sr.trans (((Stp.refl _ _).alloc hBr _).trans s')⟩
        case measure => simp [RowKit.intOf]; omega
      have n13 : ((c.toNat : Int) == 13) = false := ne_num h13
      go_wp2_with (at_builtin; refine app_slice rfl _ _ rfl wg.heap.size _ _ rfl (hor.alloc _) (some ⟨wr.heap.size, 0, none⟩) 1 1 [c] rfl (by simp) rfl (lit_bytes _ [c] _ _ rfl _ rfl) (by show _ + 1 ≤ _; omega) (by simp; omega) ?_)
      intro v' w' ho' s'
      go_wp2
      go_roundw
      case rel => exact ⟨k + 1, by omega, by go_num, by rw [HFS.out, esc_other h92 h10 h9 h13]; simpa using ho', sr.trans (((Stp.refl _ _).alloc hBr _).trans s')⟩
      case measure => simp [RowKit.intOf]; omega
    · have hkl : k = tn := by omega
      rw [hkl, List.take_of_length_le (by omega), HP.out] at hor
      have hog2 := hog.later (s0.trans sr).below (Nat.le_refl _)
      go_wp2_with fail
      refine (equal_own _ _ _ _ _ _ _ hog2 hor).mono ?_
      rintro e w' ⟨rfl, rfl⟩
      go_wp2
      go_ret
      exact ⟨by simp, hbel⟩

end Go.Proofs.YbulkiiyDoor
