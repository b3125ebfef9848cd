/-
  THE FLOATS OF THIS SEAT: small whole numbers as doubles: they read as themselves, stand in order as themselves, and add as themselves. No Go in sight.
-/
import Derived.Laws.FloatArith
namespace Go.Proofs.Ybulkigu.Flt
open Ieee

theorem log2_shift (n k : Nat) (h : 0 < n) : (n * 2 ^ k).log2 = n.log2 + k := by
  rw [Nat.log2_eq_iff (Nat.mul_ne_zero (by omega) (Nat.ne_of_gt (Nat.two_pow_pos k)))]
  have a := Nat.log2_self_le (n := n) (by omega)
  have b := Nat.lt_log2_self (n := n)
  constructor
  · rw [Nat.pow_add]; exact Nat.mul_le_mul_right _ a
  · rw [show n.log2 + k + 1 = n.log2 + 1 + k from by omega, Nat.pow_add 2 (n.log2 + 1) k]
    exact (Nat.mul_lt_mul_right (Nat.two_pow_pos k)).2 b

theorem cut_zero (n : Nat) : Toward.even.cut false n 0 = n := by
  simp [Toward.cut, Nat.mod_one]

theorem cut_exact (n d : Nat) (h : 0 < n) : Toward.even.cut false (n * 2 ^ d) d = n := by
  have hl := log2_shift n d h
  have hp : 0 < 2 ^ d := Nat.two_pow_pos d
  have hm : min d ((n * 2 ^ d).log2 + 2) = d := by rw [hl]; omega
  unfold Toward.cut
  simp only [hm, Nat.one_shiftLeft, Nat.mul_div_cancel _ hp, Nat.mul_mod_left]
  have h1 : decide (2 ^ d < 2 * 0) = false := by simp
  have h2 : ((2 ^ d : Nat) == 2 * 0) = false := by simp
  rw [h1, h2]; simp

theorem log2_small (n : Nat) (h0 : 0 < n) (h : n < 2 ^ 53) : n.log2 ≤ 52 := by
  have := (Nat.log2_lt (n := n) (k := 53) (by omega)).2 h
  omega

/-- the significand of n at full width -/
theorem sig_bounds (n : Nat) (h0 : 0 < n) (h : n < 2 ^ 53) : 2 ^ 52 ≤ n * 2 ^ (52 - n.log2) ∧ n * 2 ^ (52 - n.log2) < 2 ^ 53 := by
  have hL := log2_small n h0 h
  have a := Nat.log2_self_le (n := n) (by omega)
  have b := Nat.lt_log2_self (n := n)
  constructor
  · calc 2 ^ 52 = 2 ^ n.log2 * 2 ^ (52 - n.log2) := by rw [← Nat.pow_add]; congr 1; omega
      _ ≤ _ := Nat.mul_le_mul_right _ a
  · calc n * 2 ^ (52 - n.log2) < 2 ^ (n.log2 + 1) * 2 ^ (52 - n.log2) := (Nat.mul_lt_mul_right (Nat.two_pow_pos _)).2 b
      _ = 2 ^ 53 := by rw [← Nat.pow_add]; congr 1; omega

theorem leastPlace_double : double.leastPlace = -1074 := by decide
theorem binade_double : double.binade = 4503599627370496 := by decide
theorem infRung_double : double.infRung = 9218868437227405312 := by decide
theorem signWeight_double : double.signWeight = 9223372036854775808 := by decide

theorem nearest_dyadic (n k : Nat) (h0 : 0 < n) (h : n < 2 ^ 53) :
    double.nearest false (n * 2 ^ k) (-(k : Int)) = (n.log2 + 1022) * 4503599627370496 + n * 2 ^ (52 - n.log2) := by
  have hL := log2_small n h0 h
  have hs := sig_bounds n h0 h
  have hl := log2_shift n k h0
  have hne : n * 2 ^ k ≠ 0 := Nat.mul_ne_zero (by omega) (Nat.ne_of_gt (Nat.two_pow_pos k))
  have hf : (double.fractionBits : Int) = 52 := rfl
  unfold Format.nearest
  rw [if_neg hne]
  simp only [hl, leastPlace_double, binade_double, infRung_double, hf]
  have hlast : max (-(k : Int) + ((n.log2 + k : Nat) : Int) - 52) (-1074) = (n.log2 : Int) - 52 := by omega
  rw [hlast]
  have hk : Toward.even.cut false ((n * 2 ^ k) <<< (-(k : Int) - ((n.log2 : Int) - 52)).toNat) ((n.log2 : Int) - 52 - -(k : Int)).toNat = n * 2 ^ (52 - n.log2) := by
    by_cases c : k ≤ 52 - n.log2
    · have e1 : (-(k : Int) - ((n.log2 : Int) - 52)).toNat = 52 - n.log2 - k := by omega
      have e2 : ((n.log2 : Int) - 52 - -(k : Int)).toNat = 0 := by omega
      rw [e1, e2, cut_zero, Nat.shiftLeft_eq, Nat.mul_assoc, ← Nat.pow_add]
      congr 2; omega
    · have e1 : (-(k : Int) - ((n.log2 : Int) - 52)).toNat = 0 := by omega
      have e2 : ((n.log2 : Int) - 52 - -(k : Int)).toNat = k - (52 - n.log2) := by omega
      rw [e1, e2, Nat.shiftLeft_zero]
      have e3 : n * 2 ^ k = n * 2 ^ (52 - n.log2) * 2 ^ (k - (52 - n.log2)) := by
        rw [Nat.mul_assoc, ← Nat.pow_add]; congr 2; omega
      rw [e3, cut_exact _ _ (by omega)]
  rw [hk]
  have e4 : ((n.log2 : Int) - 52 - -1074).toNat = n.log2 + 1022 := by omega
  rw [e4]
  unfold Format.word
  simp only [Bool.false_eq_true, if_false]
  omega

/-- a whole number as a double -/
def fl (n : Nat) : Nat := double.nearest false n 0

theorem fl_eq (n k : Nat) (h : n < 2 ^ 53) : double.nearest false (n * 2 ^ k) (-(k : Int)) = fl n := by
  by_cases h0 : n = 0
  · subst h0; simp [fl, Format.nearest]
  · rw [nearest_dyadic n k (by omega) h, fl]
    have := nearest_dyadic n 0 (by omega) h
    simpa using this.symm

theorem read_fl (n : Nat) (h : n < 2 ^ 53) : ∃ p : Nat, double.read (fl n) = .number false (n * 2 ^ p) (-(p : Int)) := by
  by_cases h0 : n = 0
  · subst h0; exact ⟨1074, by decide +kernel⟩
  · have hL := log2_small n (by omega) h
    have hs := sig_bounds n (by omega) h
    refine ⟨52 - n.log2, ?_⟩
    have e : fl n = (n.log2 + 1022) * 4503599627370496 + n * 2 ^ (52 - n.log2) := by
      have := nearest_dyadic n 0 (by omega) h
      simpa [fl] using this
    rw [e]
    generalize n * 2 ^ (52 - n.log2) = m at hs
    unfold Format.read
    simp only [leastPlace_double, binade_double, infRung_double, signWeight_double]
    have a1 : ((n.log2 + 1022) * 4503599627370496 + m) % 9223372036854775808 = (n.log2 + 1022) * 4503599627370496 + m := by omega
    have a2 : ((n.log2 + 1022) * 4503599627370496 + m) / 9223372036854775808 = 0 := by omega
    rw [a1, a2, if_neg (by omega), if_pos (by omega)]
    have a3 : ((n.log2 + 1022) * 4503599627370496 + m) % 4503599627370496 = m - 4503599627370496 := by omega
    have a4 : ((n.log2 + 1022) * 4503599627370496 + m) / 4503599627370496 - 1 = n.log2 + 1022 := by omega
    rw [a3, a4]
    have a5 : 4503599627370496 + (m - 4503599627370496) = m := by omega
    have a6 : (-1074 : Int) + ((n.log2 + 1022 : Nat) : Int) = -((52 - n.log2 : Nat) : Int) := by omega
    rw [a5, a6]; rfl

theorem signed_at (a p M : Nat) (h : p ≤ M) : signed false (a * 2 ^ p) (-(p : Int) - -(M : Int)).toNat = ((a * 2 ^ M : Nat) : Int) := by
  have e : (-(p : Int) - -(M : Int)).toNat = M - p := by omega
  rw [e]
  simp only [signed, Bool.false_eq_true, if_false]
  rw [Nat.shiftLeft_eq, Nat.mul_assoc, ← Nat.pow_add]
  congr 3; omega

theorem min_places (p q : Nat) : min (-(p : Int)) (-(q : Int)) = -((max p q : Nat) : Int) := by omega

theorem order_fl (a b : Nat) (ha : a < 2 ^ 53) (hb : b < 2 ^ 53) : double.order (fl a) (fl b) = some (compare a b) := by
  obtain ⟨p, hp⟩ := read_fl a ha
  obtain ⟨q, hq⟩ := read_fl b hb
  unfold Format.order
  rw [hp, hq]
  simp only [Datum.order, min_places]
  rw [signed_at _ _ _ (Nat.le_max_left p q), signed_at _ _ _ (Nat.le_max_right p q)]
  have hpos : 0 < 2 ^ max p q := Nat.two_pow_pos _
  congr 1
  rcases Nat.lt_trichotomy a b with h | h | h
  · rw [Nat.compare_eq_lt.2 h]
    have : a * 2 ^ max p q < b * 2 ^ max p q := (Nat.mul_lt_mul_right hpos).2 h
    simp only [compare, compareOfLessAndEq]
    rw [if_pos (by omega)]
  · subst h
    rw [Nat.compare_eq_eq.2 rfl]
    simp [compare, compareOfLessAndEq]
  · rw [Nat.compare_eq_gt.2 h]
    have : b * 2 ^ max p q < a * 2 ^ max p q := (Nat.mul_lt_mul_right hpos).2 h
    simp only [compare, compareOfLessAndEq]
    rw [if_neg (by omega), if_neg (by omega)]

theorem add_fl (a b : Nat) (ha : a < 2 ^ 53) (hb : b < 2 ^ 53) (hab : a + b < 2 ^ 53) : double.add (fl a) (fl b) = some (fl (a + b)) := by
  obtain ⟨p, hp⟩ := read_fl a ha
  obtain ⟨q, hq⟩ := read_fl b hb
  unfold Format.add
  rw [hp, hq]
  simp only [Datum.sum, min_places]
  rw [signed_at _ _ _ (Nat.le_max_left p q), signed_at _ _ _ (Nat.le_max_right p q)]
  have e : ((a * 2 ^ max p q : Nat) : Int) + ((b * 2 ^ max p q : Nat) : Int) = (((a + b) * 2 ^ max p q : Nat) : Int) := by
    rw [Nat.add_mul]; omega
  rw [e]
  have e2 : (if (((a + b) * 2 ^ max p q : Nat) : Int) = 0 then (false && false) else decide ((((a + b) * 2 ^ max p q : Nat) : Int) < 0)) = false := by
    split
    · rfl
    · exact decide_eq_false (Int.not_lt.2 (Int.natCast_nonneg _))
  rw [e2, Int.natAbs_natCast]
  simp only [Option.map_some, Format.write]
  rw [fl_eq _ _ hab]

theorem below_great (a p e : Nat) (ha : a < 2 ^ 53) (he : 1 ≤ e) : a * 2 ^ p < 9007199254740991 * 2 ^ (e + p) := by
  have hpos : 0 < 2 ^ p := Nat.two_pow_pos _
  have h2 : 2 ^ 1 ≤ 2 ^ e := Nat.pow_le_pow_right (by decide) he
  rw [Nat.pow_add, ← Nat.mul_assoc]
  refine (Nat.mul_lt_mul_right hpos).2 ?_
  calc a < 2 ^ 53 := ha
    _ ≤ 9007199254740991 * 2 ^ 1 := by decide
    _ ≤ _ := Nat.mul_le_mul_left _ h2

theorem not_above_max (a : Nat) (ha : a < 2 ^ 53) : double.order (fl a) 9218868437227405311 = some .lt := by
  obtain ⟨p, hp⟩ := read_fl a ha
  have hm : double.read 9218868437227405311 = .number false 9007199254740991 971 := by decide +kernel
  unfold Format.order
  rw [hp, hm]
  simp only [Datum.order]
  have e0 : min (-(p : Int)) 971 = -(p : Int) := by omega
  rw [e0, signed_at _ _ _ (Nat.le_refl p)]
  have e1 : ((971 : Int) - -(p : Int)).toNat = 971 + p := by omega
  rw [e1]
  have h1 := below_great a p 971 ha (by decide)
  generalize 971 + p = M at h1
  congr 1
  simp only [signed, Bool.false_eq_true, if_false, Nat.shiftLeft_eq, compare, compareOfLessAndEq]
  rw [if_pos (Int.ofNat_lt.2 h1)]

end Go.Proofs.Ybulkigu.Flt
