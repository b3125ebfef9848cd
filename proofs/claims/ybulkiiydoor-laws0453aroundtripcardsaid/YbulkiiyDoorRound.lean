/-
  THE WALK OF LawS0453ARoundTrip.
-/
import Derived.Test.YbulkiiyDoorEqual
namespace Go.Proofs.YbulkiiyDoor
open Go.RowKit Go.Lib

theorem equal_same (p1 p2 : Option Addr) (n1 k1 n2 k2 : Nat) (T : List UInt8) (w : World) (h1 : T.length = n1) (h2 : T.length = n2) (b1 : Lib.BytesIn w p1 n1 (nums T)) (b2 : Lib.BytesIn w p2 n2 (nums T)) :
    Calls Ybad.prog 7 #[.slice p1 n1 k1, .slice p2 n2 k2] w fun e w' => e = .returned (.bool true) ∧ w = w' := by
  refine (equal_bytes p1 p2 n1 k1 n2 k2 T T w h1 h2 b1 b2).mono ?_
  rintro e w' ⟨rfl, rfl⟩
  exact ⟨by simp, rfl⟩

theorem Own.at {w : World} {B : Nat} {v : Value} {T : List UInt8} (h : Own w B v T) (h0 : 0 < T.length) :
    ∃ g cap, v = .slice (some ⟨g, 0, none⟩) T.length cap ∧ T.length ≤ cap ∧ cap ≤ maxLen ∧ B ≤ g ∧ g < w.heap.size ∧ ∀ i, (hi : i < T.length) → w.cell? ⟨g, i, none⟩ = some (.int .u8 (T[i].toNat : Int)) := by
  rcases h.2 with ⟨_, h1⟩ | ⟨g, cap, cur, hv, hb, hh, hnc, hcm, hcs, htake⟩
  · omega
  · subst hv
    refine ⟨g, cap, rfl, hnc, hcm, hb, (Array.getElem?_eq_some_iff.1 hh).1, fun i hi => ?_⟩
    rw [World.ownsRow.cellAt h i (by omega)]
    simp [Lib.byteCells, hi]

/-- a stretch of a row of bytes -/
theorem sub_bytes {w : World} {g : Nat} {L : List UInt8} (hG : ∀ i, (hi : i < L.length) → w.cell? ⟨g, i, none⟩ = some (.int .u8 (L[i].toNat : Int))) (A M C : List UInt8) (hL : L = A ++ (M ++ C)) (o n : Nat) (ho : A.length = o) (hn : M.length = n) :
    Lib.BytesIn w (some ⟨g, o, none⟩) n (nums M) := by
  intro _
  subst ho hn
  refine ⟨g, A.length, rfl, fun i hi => ?_⟩
  have hlen : A.length + i < L.length := by rw [hL]; simp only [List.length_append]; omega
  rw [hG (A.length + i) hlen, nums_getD M i hi]
  have e : L[A.length + i] = M[i] := by
    simp only [hL]
    rw [List.getElem_append_right (by omega)]
    simp only [Nat.add_sub_cancel_left]
    rw [List.getElem_append_left hi]
  rw [e]

/-- one byte of a row -/
theorem sub_byte {w : World} {g : Nat} {L : List UInt8} (hG : ∀ i, (hi : i < L.length) → w.cell? ⟨g, i, none⟩ = some (.int .u8 (L[i].toNat : Int))) (A C : List UInt8) (c : UInt8) (hL : L = A ++ ([c] ++ C)) (o : Nat) (ho : A.length = o) :
    w.cell? ⟨g, o, none⟩ = some (.int .u8 (c.toNat : Int)) := by
  obtain ⟨b, o', hp, hc⟩ := sub_bytes hG A [c] C hL o 1 ho rfl (by omega)
  cases hp
  exact hc 0 (by omega)

theorem str_nums (k : ByteArray) : strOfNums (nums k.data.toList) = k := by
  have h := bytesOf_nums k.data.toList
  unfold Lib.bytesOf at h
  unfold strOfNums
  rw [h]

theorem posB_pos (file : List UInt8) (line col : Int) : 0 < (posB file line col).length := by
  unfold posB
  simp only [List.length_append, List.length_cons, List.length_nil]
  omega

set_option maxHeartbeats 8000000 in
set_option maxRecDepth 100000 in
theorem round_core (bp tp : Option Addr) (bn bc tn tc : Nat) (file kind : ByteArray) (line col : Int) (X Bs : List UInt8) (w : World)
    (l0 : -9223372036854775808 ≤ line) (l1 : line ≤ 9223372036854775807) (c0 : -9223372036854775808 ≤ col) (c1 : col ≤ 9223372036854775807)
    (htab : Lib.TabBelow Ybad.prog w.heap.size w tabName .u64 Lib.pow10Tab) (hbs : Src w.heap.size w bp bn Bs) (hbp : bp = none → bn = 0 ∧ bc = 0) (hts : Src w.heap.size w tp tn X)
    (b1 : bn ≤ 1024) (b2 : file.size ≤ 1024) (b3 : kind.size ≤ 1024) (b4 : tn ≤ 1024) :
    Calls Ybad.prog 4 #[.slice bp bn bc, .string file, .int .i64 line, .int .i64 col, .string kind, .slice tp tn tc] w fun e w' => e = .returned (.bool true) ∧ Below w.heap.size w w' := by
  have hBs : Bs.length = bn := hbs.1
  have hXl : X.length = tn := hts.1
  have hkz : kind.data.toList.length = kind.size := by rw [Array.length_toList]; rfl
  have hfz : file.data.toList.length = file.size := by rw [Array.length_toList]; rfl
  have la := Lib.itoa_length_le line l0 l1
  have lb := Lib.itoa_length_le col c0 c1
  have hpl : (posB file.data.toList line col).length ≤ 2000 := by
    unfold posB
    split
    all_goals (simp only [List.length_append, List.length_cons, List.length_nil, hfz]; omega)
  have HBS : Hid (Src w.heap.size w bp bn Bs) := hbs
  have HTS : Hid (Src w.heap.size w tp tn X) := hts
  have hb0 : (w.alloc (.cells #[.string file, .int .i64 line, .int .i64 col] 25)).heap[w.heap.size]? = some (.cells #[.string file, .int .i64 line, .int .i64 col] 25 (0, 0)) := (MapKept.heap_alloc w _).1
  have s0 : Stp w.heap.size w (w.alloc (.cells #[.string file, .int .i64 line, .int .i64 col] 25)) := (Stp.refl _ _).alloc (Nat.le_refl _) _
  have hsb : Src w.heap.size (w.alloc (.cells #[.string file, .int .i64 line, .int .i64 col] 25)) bp bn Bs := hbs.on s0.below
  have hB0 : w.heap.size ≤ (w.alloc (.cells #[.string file, .int .i64 line, .int .i64 col] 25)).heap.size := s0.size
  clear hbs hts
  go_enter Ybad.func4, Ybad.ntmps4
  go_wp2_with (at_builtin; refine app_slice rfl _ _ rfl w.heap.size _ [] rfl (Own.nil _ _) bp bn bc Bs rfl hbp hBs hsb.bytes (by simp only [List.length_nil]; omega) hB0 ?_)
  intro va wa hoa sa
  have hoa : Own wa w.heap.size va Bs := by simpa using hoa
  have hba := sa.box hb0
  have s0a := s0.trans sa
  have x0 : wa.cell? ⟨w.heap.size, 0, none⟩ = some (.string file) := by rw [cell_of_row wa _ 0 _ _ _ hba]; rfl
  have x1 : wa.cell? ⟨w.heap.size, 1, none⟩ = some (.int .i64 line) := by rw [cell_of_row wa _ 1 _ _ _ hba]; rfl
  have x2 : wa.cell? ⟨w.heap.size, 2, none⟩ = some (.int .i64 col) := by rw [cell_of_row wa _ 2 _ _ _ hba]; rfl
  clear s0 hb0 hB0 hsb sa
  go_wp2_with fail
  refine (fields_any w.heap.size file kind line col l0 l1 c0 c1 va Bs X wa tp tn tc hoa s0a.size (by omega) (tab_on htab s0a) (HTS.out.on s0a.below)).mono ?_
  rintro e wg ⟨vg, rfl, hog, sg⟩
  have hbg := sg.box hba
  have s0g := s0a.trans sg
  clear x0 x1 x2 hba hoa sg s0a
  have x0 : wg.cell? ⟨w.heap.size, 0, none⟩ = some (.string file) := by rw [cell_of_row wg _ 0 _ _ _ hbg]; rfl
  have x1 : wg.cell? ⟨w.heap.size, 1, none⟩ = some (.int .i64 line) := by rw [cell_of_row wg _ 1 _ _ _ hbg]; rfl
  have x2 : wg.cell? ⟨w.heap.size, 2, none⟩ = some (.int .i64 col) := by rw [cell_of_row wg _ 2 _ _ _ hbg]; rfl
  have htg : Lib.TabBelow Ybad.prog wg.heap.size wg tabName .u64 Lib.pow10Tab := fun w' hb' => htab w' (s0g.below.trans (hb'.mono s0g.size))
  go_wp2_with fail
  refine (pos_any wg.heap.size file line col l0 l1 c0 c1 _ [] wg (Own.nil _ _) (Nat.le_refl _) (by simp only [List.length_nil]; omega) htg).mono ?_
  rintro e wp ⟨vp, rfl, hop, sp⟩
  have hop : Own wp wg.heap.size vp (posB file.data.toList line col) := by simpa using hop
  have hog := hog.later sp.below (Nat.le_refl _)
  have bel : Below w.heap.size w wp := s0g.below.trans (sp.below.mono s0g.size)
  have hsB : Src w.heap.size wp bp bn Bs := HBS.out.on bel
  have hsT : Src w.heap.size wp tp tn X := HTS.out.on bel
  clear x0 x1 x2 hbg htg htab HBS HTS la lb
  have hpp := posB_pos file.data.toList line col
  obtain ⟨L, hL⟩ : ∃ L, L = Bs ++ fieldsB file.data.toList line col kind.data.toList X := ⟨_, rfl⟩
  rw [← hL] at hog
  unfold fieldsB at hL
  obtain ⟨P, hP⟩ : ∃ P, P = posB file.data.toList line col := ⟨_, rfl⟩
  rw [← hP] at hL hop hpl hpp
  clear hP
  obtain ⟨E, hE⟩ : ∃ E, E = X.flatMap esc := ⟨_, rfl⟩
  rw [← hE] at hL
  have hEl : E.length ≤ 2 * tn := by rw [hE, ← hXl]; exact flat_length X
  have HE : Hid (E = X.flatMap esc) := hE
  clear hE
  have hLe : L.length = bn + P.length + kind.size + 2 + E.length := by
    rw [hL]
    simp only [List.length_append, List.length_cons, List.length_nil, hBs, hkz]
    omega
  have HL : Hid (L = Bs ++ (P ++ ([9] ++ (kind.data.toList ++ ([9] ++ E))))) := hL
  have HLe : Hid (L.length = bn + P.length + kind.size + 2 + E.length) := hLe
  have hn1 : bn + P.length + kind.size + 2 ≤ L.length := by omega
  have hn2 : L.length ≤ 10000 := by omega
  clear hL hLe
  obtain ⟨g, cg, rfl, hgc, hgm, hg0, hg1, hgcell⟩ := hog.at (by omega)
  obtain ⟨gp, cp, rfl, hpc, hpm, hp0, hp1, hpcell⟩ := hop.at hpp
  have HG : Hid (∀ i, (hi : i < L.length) → wp.cell? ⟨g, i, none⟩ = some (.int .u8 (L[i].toNat : Int))) := hgcell
  have HPc : Hid (∀ i, (hi : i < P.length) → wp.cell? ⟨gp, i, none⟩ = some (.int .u8 (P[i].toNat : Int))) := hpcell
  clear hgcell hpcell
  have e1 : (bn : Int) ≤ 1024 := by omega
  have e2 : (P.length : Int) ≤ 2000 := by omega
  have e3 : (kind.size : Int) ≤ 1024 := by omega
  have e4 : (bn : Int) + (P.length : Int) + (kind.size : Int) + 2 ≤ (L.length : Int) := by omega
  have e5 : (L.length : Int) ≤ 10000 := by omega
  have e6 : L.length ≤ cg := hgc
  go_wp2_with fail
  refine (equal_same _ _ _ _ _ _ Bs _ hBs hBs (sub_bytes HG.out [] Bs _ HL.out 0 bn rfl hBs) hsB.bytes).mono ?_
  rintro e w' ⟨rfl, rfl⟩
  go_wp2_with fail
  refine (equal_same _ _ _ _ _ _ P _ rfl rfl (sub_bytes HG.out Bs P _ HL.out bn P.length hBs rfl) (sub_bytes HPc.out [] P [] (by simp) 0 P.length rfl rfl)).mono ?_
  rintro e w' ⟨rfl, rfl⟩
  have y1 : wp.cell? ⟨g, bn + P.length, none⟩ = some (.int .u8 9) := sub_byte HG.out (Bs ++ P) (kind.data.toList ++ ([9] ++ E)) 9 (by rw [HL.out]; simp only [List.append_assoc]) _ (by rw [List.length_append, hBs])
  have y2 : wp.cell? ⟨g, bn + P.length + kind.size + 1, none⟩ = some (.int .u8 9) := sub_byte HG.out (Bs ++ P ++ [9] ++ kind.data.toList) E 9 (by rw [HL.out]; simp only [List.append_assoc]) _ (by simp only [List.length_append, List.length_cons, List.length_nil, hBs, hkz]; omega)
  have hcv : (convert 22 9 (.slice (some ⟨g, bn + P.length + 1, none⟩) kind.size (cg - (bn + P.length + 1)))).run Ybad.prog wp = .ok (.string kind) wp := by
    have hb := sub_bytes HG.out (Bs ++ P ++ [9]) kind.data.toList ([9] ++ E) (by rw [HL.out]; simp only [List.append_assoc]) (bn + P.length + 1) kind.size (by simp only [List.length_append, List.length_cons, List.length_nil, hBs]) hkz
    have := hb.convert (P := Ybad.prog) (by rw [nums_length, hkz]) (cg - (bn + P.length + 1)) 22 5 9 Ybad.underlying22 Ybad.underlying5 Ybad.underlying9
    rw [str_nums] at this
    exact this
  have e7 : L.length - (bn + P.length + kind.size + 2) = E.length := by have := HLe.out; omega
  by_cases hE0 : E.length = 0
  · have hX0 : X = [] := by
      have h1 : X.flatMap esc = [] := by rw [← HE.out]; exact List.eq_nil_of_length_eq_zero hE0
      cases X with
      | nil => rfl
      | cons c X' =>
        exfalso
        rw [List.flatMap_cons] at h1
        have h2 := (List.append_eq_nil_iff.1 h1).1
        unfold esc at h2
        repeat' split at h2
        all_goals cases h2
    have htn : tn = 0 := by rw [← hXl, hX0]; rfl
    have bX : Lib.BytesIn wp tp tn (nums []) := by rw [htn]; exact Lib.BytesIn.nil _ _ _
    have HTN : Hid (tn = 0) := htn
    clear htn hX0 hXl
    go_wp2_with fail
    all_goals
      refine wp_loop_rounds 1 ?_
      rw [rounds_succ]
      go_wp2_with fail
      refine (equal_same _ _ _ _ _ _ [] _ rfl (by rw [HTN.out]; rfl) (Lib.BytesIn.nil _ _ _) bX).mono ?_
      rintro e w' ⟨rfl, rfl⟩
      go_wp2
      go_ret
      exact ⟨rfl, bel⟩
  · have hne : ¬ cg = bn + P.length + kind.size + 2 := by have := HLe.out; omega
    have hel : (E.length : Int) ≤ 3000 := by omega
    have HE7 : Hid (L.length - (bn + P.length + kind.size + 2) = E.length) := e7
    clear e7
    have f1 : bn + P.length + kind.size + 2 - 1 = bn + P.length + kind.size + 1 := by omega
    have f2 : bn + P.length + kind.size + 1 - (bn + P.length + 1) = kind.size := by omega
    go_wp2_with fail
    rw [f1, f2]
    clear f1 f2
    go_loopw [19, 20] (fun v i wr => ∃ k m : Nat, k ≤ tn ∧ i = .int .i64 (m : Int) ∧ Hid (m = ((X.take k).flatMap esc).length) ∧ m ≤ E.length ∧ Own wr wp.heap.size v (X.take k) ∧ Stp wp.heap.size wp wr) (fun _ i _ => E.length - (RowKit.intOf i).toNat)
    case atStart => exact ⟨0, 0, Nat.zero_le _, rfl, by simp [Hid], Nat.zero_le _, by simpa using Own.nil _ _, Stp.refl _ _⟩
    case round =>
      obtain ⟨k, m, hk, rfl, HM, hm, hor, sr⟩ := hrel
      have hBr : wp.heap.size ≤ wr.heap.size := sr.size
      have hGr : ∀ i, (hi : i < L.length) → wr.cell? ⟨g, i, none⟩ = some (.int .u8 (L[i].toNat : Int)) := fun i hi => (sr.below.cell (p := ⟨g, i, none⟩) hg1).trans (HG.out i hi)
      have HGr : Hid (∀ i, (hi : i < L.length) → wr.cell? ⟨g, i, none⟩ = some (.int .u8 (L[i].toNat : Int))) := hGr
      clear hGr
      have htl : (X.take k).length ≤ 1024 := by rw [List.length_take]; omega
      by_cases hlt : k < tn
      · have hfs := flat_snoc X k (by omega)
        have hts := List.take_succ_eq_append_getElem (l := X) (i := k) (by omega)
        have hdr : X.drop k = X[k] :: X.drop (k + 1) := List.drop_eq_getElem_cons (by omega)
        obtain ⟨c, hc⟩ : ∃ c, c = X[k] := ⟨_, rfl⟩
        rw [← hc] at hfs hts hdr
        have HFS : Hid (((X.take (k + 1)).flatMap esc).length = m + (esc c).length) := by
          show _ = _
          rw [hfs, List.length_append, HM.out]
        have HTS : Hid (X.take (k + 1) = X.take k ++ [c]) := hts
        have HEE : Hid (E = (X.take k).flatMap esc ++ (esc c ++ (X.drop (k + 1)).flatMap esc)) := by
          show _ = _
          rw [HE.out]
          conv => lhs; rw [← List.take_append_drop k X]
          rw [List.flatMap_append, hdr, List.flatMap_cons]
        have HLL : Hid (L = (Bs ++ (P ++ ([9] ++ (kind.data.toList ++ ([9] ++ (X.take k).flatMap esc))))) ++ (esc c ++ (X.drop (k + 1)).flatMap esc)) := by
          show _ = _
          rw [HL.out, HEE.out]
          simp only [List.append_assoc]
        have HAl : Hid ((Bs ++ (P ++ ([9] ++ (kind.data.toList ++ ([9] ++ (X.take k).flatMap esc))))).length = bn + P.length + kind.size + 2 + m) := by
          show _ = _
          simp only [List.length_append, List.length_cons, List.length_nil, hBs, hkz, HM.out]
          omega
        have hme : m + (esc c).length ≤ E.length := by
          rw [HEE.out]
          simp only [List.length_append, HM.out]
          omega
        clear hfs hts hdr hc
        by_cases h92 : c = 92
        · subst h92
          have hme2 : m + 2 ≤ E.length := hme
          have hmi : (m : Int) + 2 ≤ ((L.length - (bn + P.length + kind.size + 2) : Nat) : Int) := by rw [HE7.out]; omega
          have hb2 := sub_bytes HGr.out _ [92, 92] _ HLL.out _ 2 HAl.out rfl
          obtain ⟨_, _, hp, hcc⟩ := hb2 (by omega)
          cases hp
          have z1 : wr.cell? ⟨g, bn + P.length + kind.size + 2 + m, none⟩ = some (.int .u8 92) := hcc 0 (by omega)
          have z2 : wr.cell? ⟨g, bn + P.length + kind.size + 2 + (m + 1), none⟩ = some (.int .u8 92) := hcc 1 (by omega)
          clear hb2 hcc
          go_wp2_with (at_builtin; refine app_slice rfl _ _ rfl wp.heap.size _ _ rfl (hor.alloc _) (some ⟨wr.heap.size, 0, none⟩) 1 1 [92] rfl (by simp) rfl (lit_bytes _ [92] _ _ rfl _ rfl) (by show _ + 1 ≤ _; omega) (by simp; omega) ?_)
          intro v' w' ho' s'
          go_wp2
          go_roundw
          case rel =>
            first
              | exact ⟨k + 1, m + 2, by omega, by go_num, by show _ = _; rw [HFS.out]; rfl, hme2, by rw [HTS.out]; simpa using ho', sr.trans (((Stp.refl _ _).alloc hBr _).trans s')⟩
              | ((repeat apply Exists.intro); exact ⟨⟨k + 1, m + 2, by omega, by go_num, by show _ = _; rw [HFS.out]; rfl, hme2, by rw [HTS.out]; simpa using ho', sr.trans (((Stp.refl _ _).alloc hBr _).trans s')⟩, rfl⟩)
          case measure => simp [RowKit.intOf]; omega
        have n92 : ((c.toNat : Int) == 92) = false := ne_num h92
        by_cases h10 : c = 10
        · subst h10
          have hme2 : m + 2 ≤ E.length := hme
          have hmi : (m : Int) + 2 ≤ ((L.length - (bn + P.length + kind.size + 2) : Nat) : Int) := by rw [HE7.out]; omega
          have hb2 := sub_bytes HGr.out _ [92, 110] _ HLL.out _ 2 HAl.out rfl
          obtain ⟨_, _, hp, hcc⟩ := hb2 (by omega)
          cases hp
          have z1 : wr.cell? ⟨g, bn + P.length + kind.size + 2 + m, none⟩ = some (.int .u8 92) := hcc 0 (by omega)
          have z2 : wr.cell? ⟨g, bn + P.length + kind.size + 2 + (m + 1), none⟩ = some (.int .u8 110) := hcc 1 (by omega)
          clear hb2 hcc
          go_wp2_with (at_builtin; refine app_slice rfl _ _ rfl wp.heap.size _ _ rfl (hor.alloc _) (some ⟨wr.heap.size, 0, none⟩) 1 1 [10] rfl (by simp) rfl (lit_bytes _ [10] _ _ rfl _ rfl) (by show _ + 1 ≤ _; omega) (by simp; omega) ?_)
          intro v' w' ho' s'
          go_wp2
          go_roundw
          case rel =>
            first
              | exact ⟨k + 1, m + 2, by omega, by go_num, by show _ = _; rw [HFS.out]; rfl, hme2, by rw [HTS.out]; simpa using ho', sr.trans (((Stp.refl _ _).alloc hBr _).trans s')⟩
              | ((repeat apply Exists.intro); exact ⟨⟨k + 1, m + 2, by omega, by go_num, by show _ = _; rw [HFS.out]; rfl, hme2, by rw [HTS.out]; simpa using ho', sr.trans (((Stp.refl _ _).alloc hBr _).trans s')⟩, rfl⟩)
          case measure => simp [RowKit.intOf]; omega
        have n10 : ((c.toNat : Int) == 10) = false := ne_num h10
        by_cases h9 : c = 9
        · subst h9
          have hme2 : m + 2 ≤ E.length := hme
          have hmi : (m : Int) + 2 ≤ ((L.length - (bn + P.length + kind.size + 2) : Nat) : Int) := by rw [HE7.out]; omega
          have hb2 := sub_bytes HGr.out _ [92, 116] _ HLL.out _ 2 HAl.out rfl
          obtain ⟨_, _, hp, hcc⟩ := hb2 (by omega)
          cases hp
          have z1 : wr.cell? ⟨g, bn + P.length + kind.size + 2 + m, none⟩ = some (.int .u8 92) := hcc 0 (by omega)
          have z2 : wr.cell? ⟨g, bn + P.length + kind.size + 2 + (m + 1), none⟩ = some (.int .u8 116) := hcc 1 (by omega)
          clear hb2 hcc
          go_wp2_with (at_builtin; refine app_slice rfl _ _ rfl wp.heap.size _ _ rfl (hor.alloc _) (some ⟨wr.heap.size, 0, none⟩) 1 1 [9] rfl (by simp) rfl (lit_bytes _ [9] _ _ rfl _ rfl) (by show _ + 1 ≤ _; omega) (by simp; omega) ?_)
          intro v' w' ho' s'
          go_wp2
          go_roundw
          case rel =>
            first
              | exact ⟨k + 1, m + 2, by omega, by go_num, by show _ = _; rw [HFS.out]; rfl, hme2, by rw [HTS.out]; simpa using ho', sr.trans (((Stp.refl _ _).alloc hBr _).trans s')⟩
              | ((repeat apply Exists.intro); exact ⟨⟨k + 1, m + 2, by omega, by go_num, by show _ = _; rw [HFS.out]; rfl, hme2, by rw [HTS.out]; simpa using ho', sr.trans (((Stp.refl _ _).alloc hBr _).trans s')⟩, rfl⟩)
          case measure => simp [RowKit.intOf]; omega
        have n9 : ((c.toNat : Int) == 9) = false := ne_num h9
        by_cases h13 : c = 13
        · subst h13
          have hme2 : m + 2 ≤ E.length := hme
          have hmi : (m : Int) + 2 ≤ ((L.length - (bn + P.length + kind.size + 2) : Nat) : Int) := by rw [HE7.out]; omega
          have hb2 := sub_bytes HGr.out _ [92, 114] _ HLL.out _ 2 HAl.out rfl
          obtain ⟨_, _, hp, hcc⟩ := hb2 (by omega)
          cases hp
          have z1 : wr.cell? ⟨g, bn + P.length + kind.size + 2 + m, none⟩ = some (.int .u8 92) := hcc 0 (by omega)
          have z2 : wr.cell? ⟨g, bn + P.length + kind.size + 2 + (m + 1), none⟩ = some (.int .u8 114) := hcc 1 (by omega)
          clear hb2 hcc
          go_wp2_with (at_builtin; refine app_slice rfl _ _ rfl wp.heap.size _ _ rfl (hor.alloc _) (some ⟨wr.heap.size, 0, none⟩) 1 1 [13] rfl (by simp) rfl (lit_bytes _ [13] _ _ rfl _ rfl) (by show _ + 1 ≤ _; omega) (by simp; omega) ?_)
          intro v' w' ho' s'
          go_wp2
          go_roundw
          case rel =>
            first
              | exact ⟨k + 1, m + 2, by omega, by go_num, by show _ = _; rw [HFS.out]; rfl, hme2, by rw [HTS.out]; simpa using ho', sr.trans (((Stp.refl _ _).alloc hBr _).trans s')⟩
              | ((repeat apply Exists.intro); exact ⟨⟨k + 1, m + 2, by omega, by go_num, by show _ = _; rw [HFS.out]; rfl, hme2, by rw [HTS.out]; simpa using ho', sr.trans (((Stp.refl _ _).alloc hBr _).trans s')⟩, rfl⟩)
          case measure => simp [RowKit.intOf]; omega
        have n13 : ((c.toNat : Int) == 13) = false := ne_num h13
        have q92 : ((c.toNat : Int) != 92) = true := by rw [bne, n92]; rfl
        have HO : Hid (esc c = [c]) := esc_other h92 h10 h9 h13
        have hme1 : m + 1 ≤ E.length := by rw [HO.out] at hme; exact hme
        have hmi : (m : Int) + 1 ≤ ((L.length - (bn + P.length + kind.size + 2) : Nat) : Int) := by rw [HE7.out]; omega
        have z1 : wr.cell? ⟨g, bn + P.length + kind.size + 2 + m, none⟩ = some (.int .u8 (c.toNat : Int)) := by
          have hLL2 := HLL.out
          rw [HO.out] at hLL2
          exact sub_byte HGr.out _ _ c hLL2 _ HAl.out
        clear hme n92
        go_wp2_with (at_builtin; refine app_slice rfl _ _ rfl wp.heap.size _ _ rfl (hor.alloc _) (some ⟨wr.heap.size, 0, none⟩) 1 1 [c] rfl (by simp) rfl (lit_bytes _ [c] _ _ rfl _ rfl) (by show _ + 1 ≤ _; omega) (by simp; omega) ?_)
        intro v' w' ho' s'
        go_wp2
        go_roundw
        case rel =>
          first
            | exact ⟨k + 1, m + 1, by omega, by go_num, by show _ = _; rw [HFS.out, HO.out]; rfl, hme1, by rw [HTS.out]; simpa using ho', sr.trans (((Stp.refl _ _).alloc hBr _).trans s')⟩
            | ((repeat apply Exists.intro); exact ⟨⟨k + 1, m + 1, by omega, by go_num, by show _ = _; rw [HFS.out, HO.out]; rfl, hme1, by rw [HTS.out]; simpa using ho', sr.trans (((Stp.refl _ _).alloc hBr _).trans s')⟩, rfl⟩)
        case measure => simp [RowKit.intOf]; omega
      · have hkl : k = tn := by omega
        have hmE : E.length = m := by rw [HM.out, hkl, List.take_of_length_le (by omega), HE.out]
        have hmx : ((L.length - (bn + P.length + kind.size + 2) : Nat) : Int) ≤ (m : Int) := by rw [HE7.out]; omega
        clear hmE
        have hor2 : Own wr wp.heap.size u19 X := by rw [hkl, List.take_of_length_le (by omega)] at hor; exact hor
        have bX : Lib.BytesIn wr tp tn (nums X) := (hsT.on (sr.below.mono bel.size)).bytes
        obtain ⟨p3, k3, hv3, -, -, -, b3', -⟩ := hor2.form
        rw [hXl] at b3' hv3
        have hbel : Below w.heap.size w wr := bel.trans (sr.below.mono bel.size)
        subst hv3
        go_wp2_with fail
        refine (equal_same _ _ _ _ _ _ X _ hXl hXl b3' bX).mono ?_
        rintro e w' ⟨rfl, rfl⟩
        go_wp2
        go_ret
        exact ⟨rfl, hbel⟩

set_option maxHeartbeats 2000000 in
set_option maxRecDepth 100000 in
theorem round_big (bp tp : Option Addr) (bn bc tn tc : Nat) (file kind : ByteArray) (line col : Int) (w : World) (h : 1024 < bn ∨ 1024 < file.size ∨ 1024 < kind.size ∨ 1024 < tn) :
    Calls Ybad.prog 4 #[.slice bp bn bc, .string file, .int .i64 line, .int .i64 col, .string kind, .slice tp tn tc] w fun e w' => e = .returned (.bool true) ∧ Below w.heap.size w w' := by
  by_cases h1 : (1024 : Int) < (bn : Int)
  · go_enter Ybad.func4, Ybad.ntmps4; go_wp2; go_ret; exact ⟨rfl, Below.refl _ _⟩
  by_cases h2 : (1024 : Int) < (file.size : Int)
  · go_enter Ybad.func4, Ybad.ntmps4; go_wp2; go_ret; exact ⟨rfl, Below.refl _ _⟩
  by_cases h3 : (1024 : Int) < (kind.size : Int)
  · go_enter Ybad.func4, Ybad.ntmps4; go_wp2; go_ret; exact ⟨rfl, Below.refl _ _⟩
  have h4 : (1024 : Int) < (tn : Int) := by omega
  go_enter Ybad.func4, Ybad.ntmps4
  go_wp2
  go_ret
  exact ⟨rfl, Below.refl _ _⟩

theorem round_any (bp tp : Option Addr) (bn bc tn tc : Nat) (file kind : ByteArray) (line col : Int) (X Bs : List UInt8) (w : World)
    (l0 : -9223372036854775808 ≤ line) (l1 : line ≤ 9223372036854775807) (c0 : -9223372036854775808 ≤ col) (c1 : col ≤ 9223372036854775807)
    (htab : Lib.TabBelow Ybad.prog w.heap.size w tabName .u64 Lib.pow10Tab) (hbs : Src w.heap.size w bp bn Bs) (hbp : bp = none → bn = 0 ∧ bc = 0) (hts : Src w.heap.size w tp tn X) :
    Calls Ybad.prog 4 #[.slice bp bn bc, .string file, .int .i64 line, .int .i64 col, .string kind, .slice tp tn tc] w fun e w' => e = .returned (.bool true) ∧ Below w.heap.size w w' := by
  by_cases hb : 1024 < bn ∨ 1024 < file.size ∨ 1024 < kind.size ∨ 1024 < tn
  · exact round_big bp tp bn bc tn tc file kind line col w hb
  · exact round_core bp tp bn bc tn tc file kind line col X Bs w l0 l1 c0 c1 htab hbs hbp hts (by omega) (by omega) (by omega) (by omega)

end Go.Proofs.YbulkiiyDoor
