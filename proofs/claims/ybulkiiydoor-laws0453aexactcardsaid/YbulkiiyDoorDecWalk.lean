/-
  THE WALK OF zzs0453adec.
-/
import Derived.Test.YbulkiiyDoorDec
namespace Go.Proofs.YbulkiiyDoor
open Go.RowKit Go.Lib

set_option maxHeartbeats 4000000 in
set_option maxRecDepth 100000 in
theorem dec_pos (B : Nat) (x : Int) (u0 : Nat) (HX : Hid (x = (u0 : Int))) (hu0 : u0 < 18446744073709551616) (x0 : 0 ≤ x) (x1 : x ≤ 9223372036854775807)
    (sv : Value) (T : List UInt8) (w : World) (hown : Own w B sv T) (hB : B ≤ w.heap.size) (hlim : T.length ≤ 100000000) :
    Calls Ybad.prog 6 #[sv, .int .i64 x] w fun e w' => ∃ v', e = .returned v' ∧ Own w' B v' (T ++ Lib.decDigits u0) ∧ Stp B w w' := by
  go_enter Ybad.func6, Ybad.ntmps6
  go_wp2
  have hD0 : Digs (w.alloc (.cells #[.int .u8 0, .int .u8 0, .int .u8 0, .int .u8 0, .int .u8 0, .int .u8 0, .int .u8 0, .int .u8 0, .int .u8 0, .int .u8 0, .int .u8 0, .int .u8 0, .int .u8 0, .int .u8 0, .int .u8 0, .int .u8 0, .int .u8 0, .int .u8 0, .int .u8 0, .int .u8 0] 31)) w.heap.size [] :=
    ⟨_, (MapKept.heap_alloc w _).1, rfl, fun j hj => by simp at hj⟩
  have hNs : w.heap.size ≤ w.heap.size := Nat.le_refl _
  have hNB : B ≤ w.heap.size := by omega
  go_loopw [5, 7] (fun t5 t7 wr => ∃ (D : List UInt8) (u : Nat) (a : Int), t5 = .int .u64 a ∧ t7 = .int .i64 (D.length : Int) ∧ Hid (a = (u : Int)) ∧ 0 ≤ a ∧ a ≤ 18446744073709551615 ∧ D.length ≤ 19 ∧ Hid (u < 10 ^ (20 - D.length)) ∧
      Hid (Lib.decDigits u0 = Lib.decDigits u ++ D.reverse) ∧ Digs wr w.heap.size D ∧ Own wr B sv (T) ∧ Stp B w wr) (fun t5 _ _ => (RowKit.intOf t5).toNat)
  case atStart => exact ⟨[], u0, x, rfl, rfl, HX, by omega, by omega, by simp, Nat.lt_of_lt_of_le hu0 (by decide), by simp [Hid], hD0, hown.alloc _, (Stp.refl _ _).alloc hNB _⟩
  case round =>
    obtain ⟨D, u, a, rfl, rfl, HA, a0, a1, hDl, HU, HE, hD, hor, sr⟩ := hrel
    obtain ⟨vc, hvc⟩ := hD.some D.length (by omega)
    have hfz := hD.frozen D.length
    have hDi : (D.length : Int) ≤ 19 := by omega
    have hdv : (48 : Int) + a % 10 = ((dig u).toNat : Int) := by rw [dig_num, HA.out]
    have HDV : Hid ((48 : Int) + a % 10 = ((dig u).toNat : Int)) := hdv
    clear hdv
    have hD2 := hD.snoc hDl (dig u)
    rw [← HDV.out] at hD2
    have ho2 : Own (wr.setCell ⟨w.heap.size, D.length, none⟩ (.int .u8 (48 + a % 10))) B sv (T) := by
      obtain ⟨cs, hcs, _⟩ := hD
      exact hor.setOther hcs _ _
    have s2 : Stp B w (wr.setCell ⟨w.heap.size, D.length, none⟩ (.int .u8 (48 + a % 10))) := sr.setNew hNs hNB _ _
    by_cases h10 : a < 10
    · have h10u : u < 10 := by have := HA.out; omega
      have e0 : (a / 10 == 0) = true := by simp; omega
      have HL : Hid (Lib.decDigits u0 = (D ++ [dig u]).reverse) := dec_last HE.out h10u
      obtain ⟨D2, hDD⟩ : ∃ D2, D2 = D ++ [dig u] := ⟨_, rfl⟩
      rw [← hDD] at hD2 HL
      have hDn : (D2.length : Int) = (D.length : Int) + 1 := by rw [hDD]; simp
      have HDn : Hid ((D2.length : Int) = (D.length : Int) + 1) := hDn
      have hD2l : D2.length ≤ 20 := by omega
      clear hDD hDn HU
      go_wp2
      go_loopw [0, 7] (fun v t7 wr => ∃ k : Nat, k ≤ D2.length ∧ t7 = .int .i64 (k : Int) ∧ Own wr B v (T ++ (D2.drop k).reverse) ∧ Digs wr w.heap.size D2 ∧ Stp B w wr) (fun _ t7 _ => (RowKit.intOf t7).toNat)
      case atStart => exact ⟨D2.length, Nat.le_refl _, by rw [HDn.out], by simpa using ho2, hD2, s2⟩
      case round =>
        obtain ⟨k, hk, rfl, hoq, hDq, sq⟩ := hrel
        by_cases hk0 : k = 0
        · subst hk0
          go_wp2
          go_ret
          refine ⟨_, rfl, ?_, sq⟩
          rw [HL.out]
          simpa using hoq
        · obtain ⟨j, rfl⟩ : ∃ j, k = j + 1 := ⟨k - 1, by omega⟩
          have hcx := hDq.cell j (by omega)
          have hrv := rev_snoc D2 j (by omega)
          obtain ⟨c, hc⟩ : ∃ c, c = D2[j] := ⟨_, rfl⟩
          rw [← hc] at hcx hrv
          have HRV : Hid ((D2.drop j).reverse = (D2.drop (j + 1)).reverse ++ [c]) := hrv
          clear hrv hc
          have hBq : B ≤ wr.heap.size := Nat.le_trans hB sq.size
          have hj1 : ((j + 1 : Nat) : Int) = (j : Int) + 1 := by omega
          have hj2 : (j : Int) + 1 - 1 = (j : Int) := by omega
          have hj20 : (j : Int) < 20 := by omega
          have hll : (T ++ (D2.drop (j + 1)).reverse).length ≤ 200000000 := by simp only [List.length_append, List.length_reverse, List.length_drop]; omega
          go_wp2_with (at_builtin; refine app_slice rfl _ _ rfl B _ _ rfl (hoq.alloc _) (some ⟨wr.heap.size, 0, none⟩) 1 1 [c] rfl (by simp) rfl (lit_bytes _ [c] _ _ rfl _ rfl) (by show _ + 1 ≤ _; omega) (by simp; omega) ?_)
          intro v' w' ho' s'
          have s0' : Stp B wr w' := ((Stp.refl _ _).alloc hBq _).trans s'
          go_wp2
          go_roundw
          case rel => exact ⟨j, by omega, by go_num, by rw [HRV.out]; simpa using ho', hDq.on s0', sq.trans s0'⟩
          case measure => simp [RowKit.intOf]
    · have h10u : ¬ u < 10 := by have := HA.out; omega
      have e0 : (a / 10 == 0) = false := by simp; omega
      have HL : Hid (Lib.decDigits u0 = Lib.decDigits (u / 10) ++ (D ++ [dig u]).reverse) := dec_step HE.out h10u
      have HU2 : Hid (u / 10 < 10 ^ (20 - (D.length + 1))) := pow_step hDl HU.out
      have hDl2 : D.length + 1 ≤ 19 := pow_room HU2.out (by omega)
      have HA2 : Hid (a / 10 = ((u / 10 : Nat) : Int)) := by rw [HA.out]; exact (Int.natCast_ediv u 10).symm
      go_wp2
      go_roundw
      case rel => exact ⟨D ++ [dig u], u / 10, a / 10, rfl, by simp, HA2, by omega, by omega, by simpa using hDl2, by simpa using HU2, HL, hD2, ho2, s2⟩
      case measure => simp [RowKit.intOf]; omega

theorem wrap_neg {x : Int} (x0 : x < 0) (x1 : -9223372036854775808 ≤ x) : IntKind.u64.wrap (-IntKind.u64.wrap x) = -x := by
  have h : ∀ y, IntKind.u64.wrap y = y % 18446744073709551616 := fun y => by simp [IntKind.wrap, IntKind.signed, IntKind.bits]
  rw [h, h]
  omega

set_option maxHeartbeats 4000000 in
set_option maxRecDepth 100000 in
theorem dec_neg (B : Nat) (x : Int) (u0 : Nat) (HX : Hid (IntKind.u64.wrap (-IntKind.u64.wrap x) = (u0 : Int))) (hu0 : u0 < 18446744073709551616) (x0 : x < 0) (_x1 : -9223372036854775808 ≤ x)
    (h5 : 0 ≤ IntKind.u64.wrap (-IntKind.u64.wrap x)) (h6 : IntKind.u64.wrap (-IntKind.u64.wrap x) ≤ 18446744073709551615)
    (sv : Value) (T : List UInt8) (w : World) (hown : Own w B sv T) (hB : B ≤ w.heap.size) (hlim : T.length ≤ 100000000) :
    Calls Ybad.prog 6 #[sv, .int .i64 x] w fun e w' => ∃ v', e = .returned v' ∧ Own w' B v' (T ++ [45] ++ Lib.decDigits u0) ∧ Stp B w w' := by
  go_enter Ybad.func6, Ybad.ntmps6
  go_wp2_with (at_builtin; refine app_slice rfl _ _ rfl B _ _ rfl (hown.alloc _) (some ⟨w.heap.size, 0, none⟩) 1 1 [45] rfl (by simp) rfl (lit_bytes _ [45] _ _ rfl _ rfl) (by show _ + 1 ≤ _; omega) (by simp; omega) ?_)
  intro v1 w1 ho1 s1
  have s01 : Stp B w w1 := ((Stp.refl _ _).alloc hB _).trans s1
  have hB1 : B ≤ w1.heap.size := Nat.le_trans hB s01.size
  go_wp2
  have hD0 : Digs (w1.alloc (.cells #[.int .u8 0, .int .u8 0, .int .u8 0, .int .u8 0, .int .u8 0, .int .u8 0, .int .u8 0, .int .u8 0, .int .u8 0, .int .u8 0, .int .u8 0, .int .u8 0, .int .u8 0, .int .u8 0, .int .u8 0, .int .u8 0, .int .u8 0, .int .u8 0, .int .u8 0, .int .u8 0] 31)) w1.heap.size [] :=
    ⟨_, (MapKept.heap_alloc w1 _).1, rfl, fun j hj => by simp at hj⟩
  have hNs : w.heap.size ≤ w1.heap.size := s01.size
  have hNB : B ≤ w1.heap.size := by omega
  go_loopw [5, 7] (fun t5 t7 wr => ∃ (D : List UInt8) (u : Nat) (a : Int), t5 = .int .u64 a ∧ t7 = .int .i64 (D.length : Int) ∧ Hid (a = (u : Int)) ∧ 0 ≤ a ∧ a ≤ 18446744073709551615 ∧ D.length ≤ 19 ∧ Hid (u < 10 ^ (20 - D.length)) ∧
      Hid (Lib.decDigits u0 = Lib.decDigits u ++ D.reverse) ∧ Digs wr w1.heap.size D ∧ Own wr B v1 (T ++ [45]) ∧ Stp B w wr) (fun t5 _ _ => (RowKit.intOf t5).toNat)
  case atStart => exact ⟨[], u0, IntKind.u64.wrap (-IntKind.u64.wrap x), rfl, rfl, HX, by omega, by omega, by simp, Nat.lt_of_lt_of_le hu0 (by decide), by simp [Hid], hD0, ho1.alloc _, s01.alloc hNB _⟩
  case round =>
    obtain ⟨D, u, a, rfl, rfl, HA, a0, a1, hDl, HU, HE, hD, hor, sr⟩ := hrel
    obtain ⟨vc, hvc⟩ := hD.some D.length (by omega)
    have hfz := hD.frozen D.length
    have hDi : (D.length : Int) ≤ 19 := by omega
    have hdv : (48 : Int) + a % 10 = ((dig u).toNat : Int) := by rw [dig_num, HA.out]
    have HDV : Hid ((48 : Int) + a % 10 = ((dig u).toNat : Int)) := hdv
    clear hdv
    have hD2 := hD.snoc hDl (dig u)
    rw [← HDV.out] at hD2
    have ho2 : Own (wr.setCell ⟨w1.heap.size, D.length, none⟩ (.int .u8 (48 + a % 10))) B v1 (T ++ [45]) := by
      obtain ⟨cs, hcs, _⟩ := hD
      exact hor.setOther hcs _ _
    have s2 : Stp B w (wr.setCell ⟨w1.heap.size, D.length, none⟩ (.int .u8 (48 + a % 10))) := sr.setNew hNs hNB _ _
    by_cases h10 : a < 10
    · have h10u : u < 10 := by have := HA.out; omega
      have e0 : (a / 10 == 0) = true := by simp; omega
      have HL : Hid (Lib.decDigits u0 = (D ++ [dig u]).reverse) := dec_last HE.out h10u
      obtain ⟨D2, hDD⟩ : ∃ D2, D2 = D ++ [dig u] := ⟨_, rfl⟩
      rw [← hDD] at hD2 HL
      have hDn : (D2.length : Int) = (D.length : Int) + 1 := by rw [hDD]; simp
      have HDn : Hid ((D2.length : Int) = (D.length : Int) + 1) := hDn
      have hD2l : D2.length ≤ 20 := by omega
      clear hDD hDn HU
      go_wp2
      go_loopw [0, 7] (fun v t7 wr => ∃ k : Nat, k ≤ D2.length ∧ t7 = .int .i64 (k : Int) ∧ Own wr B v (T ++ [45] ++ (D2.drop k).reverse) ∧ Digs wr w1.heap.size D2 ∧ Stp B w wr) (fun _ t7 _ => (RowKit.intOf t7).toNat)
      case atStart => exact ⟨D2.length, Nat.le_refl _, by rw [HDn.out], by simpa using ho2, hD2, s2⟩
      case round =>
        obtain ⟨k, hk, rfl, hoq, hDq, sq⟩ := hrel
        by_cases hk0 : k = 0
        · subst hk0
          go_wp2
          go_ret
          refine ⟨_, rfl, ?_, sq⟩
          rw [HL.out]
          simpa using hoq
        · obtain ⟨j, rfl⟩ : ∃ j, k = j + 1 := ⟨k - 1, by omega⟩
          have hcx := hDq.cell j (by omega)
          have hrv := rev_snoc D2 j (by omega)
          obtain ⟨c, hc⟩ : ∃ c, c = D2[j] := ⟨_, rfl⟩
          rw [← hc] at hcx hrv
          have HRV : Hid ((D2.drop j).reverse = (D2.drop (j + 1)).reverse ++ [c]) := hrv
          clear hrv hc
          have hBq : B ≤ wr.heap.size := Nat.le_trans hB sq.size
          have hj1 : ((j + 1 : Nat) : Int) = (j : Int) + 1 := by omega
          have hj2 : (j : Int) + 1 - 1 = (j : Int) := by omega
          have hj20 : (j : Int) < 20 := by omega
          have hll : (T ++ [45] ++ (D2.drop (j + 1)).reverse).length ≤ 200000000 := by simp only [List.length_append, List.length_reverse, List.length_drop, List.length_cons, List.length_nil]; omega
          go_wp2_with (at_builtin; refine app_slice rfl _ _ rfl B _ _ rfl (hoq.alloc _) (some ⟨wr.heap.size, 0, none⟩) 1 1 [c] rfl (by simp) rfl (lit_bytes _ [c] _ _ rfl _ rfl) (by show _ + 1 ≤ _; omega) (by simp; omega) ?_)
          intro v' w' ho' s'
          have s0' : Stp B wr w' := ((Stp.refl _ _).alloc hBq _).trans s'
          go_wp2
          go_roundw
          case rel => exact ⟨j, by omega, by go_num, by rw [HRV.out]; simpa using ho', hDq.on s0', sq.trans s0'⟩
          case measure => simp [RowKit.intOf]
    · have h10u : ¬ u < 10 := by have := HA.out; omega
      have e0 : (a / 10 == 0) = false := by simp; omega
      have HL : Hid (Lib.decDigits u0 = Lib.decDigits (u / 10) ++ (D ++ [dig u]).reverse) := dec_step HE.out h10u
      have HU2 : Hid (u / 10 < 10 ^ (20 - (D.length + 1))) := pow_step hDl HU.out
      have hDl2 : D.length + 1 ≤ 19 := pow_room HU2.out (by omega)
      have HA2 : Hid (a / 10 = ((u / 10 : Nat) : Int)) := by rw [HA.out]; exact (Int.natCast_ediv u 10).symm
      go_wp2
      go_roundw
      case rel => exact ⟨D ++ [dig u], u / 10, a / 10, rfl, by simp, HA2, by omega, by omega, by simpa using hDl2, by simpa using HU2, HL, hD2, ho2, s2⟩
      case measure => simp [RowKit.intOf]; omega

theorem dec_any (B : Nat) (x : Int) (x0 : -9223372036854775808 ≤ x) (x1 : x ≤ 9223372036854775807)
    (sv : Value) (T : List UInt8) (w : World) (hown : Own w B sv T) (hB : B ≤ w.heap.size) (hlim : T.length ≤ 100000000) :
    Calls Ybad.prog 6 #[sv, .int .i64 x] w fun e w' => ∃ v', e = .returned v' ∧ Own w' B v' (T ++ Lib.itoa x) ∧ Stp B w w' := by
  by_cases h : x < 0
  · have hw := wrap_neg h x0
    refine (dec_neg B x x.natAbs (by show _ = _; rw [hw]; omega) (by omega) h x0 (by rw [hw]; omega) (by rw [hw]; omega) sv T w hown hB hlim).mono ?_
    rintro e w' ⟨v', rfl, h1, h2⟩
    refine ⟨v', rfl, ?_, h2⟩
    unfold Lib.itoa
    rw [if_pos h]
    simpa using h1
  · refine (dec_pos B x x.toNat (by show _ = _; omega) (by omega) (by omega) x1 sv T w hown hB hlim).mono ?_
    rintro e w' ⟨v', rfl, h1, h2⟩
    refine ⟨v', rfl, ?_, h2⟩
    unfold Lib.itoa
    rw [if_neg h]
    exact h1

end Go.Proofs.YbulkiiyDoor
