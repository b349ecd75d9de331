/-
  THE PLAIN LAWS ON float64 WORDS THAT LawS4744AModel WANTS: how positive words are ordered; NaN and negative words; the words of powers of two and their products; the least power of two at or above a word; what Frexp works on. No Go in sight: over the model's own core (Ieee).
-/
import Ieee.Arith
namespace Go.Proofs.Ybulkctfm.Dbl
open Ieee
set_option linter.unusedVariables false

theorem sw : double.signWeight = 9223372036854775808 := rfl
theorem bn : double.binade = 4503599627370496 := rfl
theorem ir : double.infRung = 9218868437227405312 := rfl
theorem lp : double.leastPlace = -1074 := rfl
theorem fb : double.fractionBits = 52 := rfl

def mag (a : Nat) : Nat := if a < 4503599627370496 then a else 4503599627370496 + a % 4503599627370496
def sh (a : Nat) : Nat := a / 4503599627370496 - 1

theorem read_eq (a : Nat) : double.read a = (if a % 9223372036854775808 < 4503599627370496 then .number (a / 9223372036854775808 % 2 == 1) (a % 9223372036854775808) (-1074)
    else if a % 9223372036854775808 < 9218868437227405312 then .number (a / 9223372036854775808 % 2 == 1) (4503599627370496 + a % 9223372036854775808 % 4503599627370496) (-1074 + (a % 9223372036854775808 / 4503599627370496 - 1 : Nat))
    else if a % 9223372036854775808 = 9218868437227405312 then .infinity (a / 9223372036854775808 % 2 == 1) else .nan (a / 9223372036854775808 % 2 == 1) (a % 9223372036854775808 - 9218868437227405312)) := rfl
theorem read_pos (a : Nat) (h : a < 9218868437227405312) : double.read a = .number false (mag a) (-1074 + (sh a : Int)) := by
  rw [read_eq]
  have e1 : a / 9223372036854775808 = 0 := by omega
  have e2 : a % 9223372036854775808 = a := by omega
  rw [e1, e2]
  unfold mag sh
  by_cases h1 : a < 4503599627370496
  · have : a / 4503599627370496 = 0 := by omega
    rw [if_pos h1, if_pos h1, this]; rfl
  · rw [if_neg h1, if_neg h1, if_pos h]; rfl

theorem read_inf : double.read 9218868437227405312 = .infinity false := by decide +kernel

theorem cmp_lt {a b : Nat} (h : a < b) : compare a b = .lt := Nat.compare_eq_lt.2 h
theorem cmp_gt {a b : Nat} (h : b < a) : compare a b = .gt := Nat.compare_eq_gt.2 h
theorem icmp_lt {a b : Int} (h : a < b) : compare a b = .lt := by
  simp [compare, compareOfLessAndEq, h]
theorem icmp_gt {a b : Int} (h : b < a) : compare a b = .gt := by
  have h1 : ¬ a < b := by omega
  have h2 : ¬ a = b := by omega
  simp [compare, compareOfLessAndEq, h1, h2]
theorem icmp_eq (a : Int) : compare a a = .eq := by
  simp [compare, compareOfLessAndEq]

def val (a : Nat) : Nat := mag a * 2 ^ sh a

theorem mag_lt (a : Nat) : mag a < 9007199254740992 := by unfold mag; split <;> omega
theorem mag_ge {a : Nat} (h : 4503599627370496 ≤ a) : 4503599627370496 ≤ mag a := by unfold mag; split <;> omega

theorem val_lt {a b : Nat} (h : a < b) : val a < val b := by
  unfold val
  by_cases hb : b < 4503599627370496
  · have ha : a < 4503599627370496 := by omega
    have s1 : sh a = 0 := by unfold sh; omega
    have s2 : sh b = 0 := by unfold sh; omega
    rw [s1, s2]; unfold mag; simp [ha, hb, h]
  · by_cases hs : sh a = sh b
    · rw [hs]
      apply Nat.mul_lt_mul_of_pos_right _ (Nat.two_pow_pos _)
      have hmb : mag b = 4503599627370496 + b % 4503599627370496 := by unfold mag; rw [if_neg hb]
      rw [hmb]
      unfold sh at hs
      by_cases ha : a < 4503599627370496
      · have hma : mag a = a := by unfold mag; rw [if_pos ha]
        rw [hma]; omega
      · have hma : mag a = 4503599627370496 + a % 4503599627370496 := by unfold mag; rw [if_neg ha]
        rw [hma]; omega
    · have hlt : sh a < sh b := by
        have : sh a ≤ sh b := by unfold sh; have := Nat.div_le_div_right (c := 4503599627370496) (Nat.le_of_lt h); omega
        omega
      obtain ⟨d, hd⟩ : ∃ d, sh b = sh a + 1 + d := ⟨sh b - sh a - 1, by omega⟩
      have hma := mag_lt a
      have hmb := mag_ge (a := b) (by omega)
      calc mag a * 2 ^ sh a < 9007199254740992 * 2 ^ sh a := Nat.mul_lt_mul_of_pos_right hma (Nat.two_pow_pos _)
        _ = 4503599627370496 * 2 ^ (sh a + 1) := by rw [Nat.pow_succ]; omega
        _ ≤ 4503599627370496 * 2 ^ sh b := Nat.mul_le_mul_left _ (Nat.pow_le_pow_right (by omega) (by omega))
        _ ≤ mag b * 2 ^ sh b := Nat.mul_le_mul_right _ hmb

theorem shl_lt {m n sa sb : Nat} (h : m * 2 ^ sa < n * 2 ^ sb) :
    (m <<< ((-1074 + (sa : Int)) - min (-1074 + (sa : Int)) (-1074 + (sb : Int))).toNat) < (n <<< ((-1074 + (sb : Int)) - min (-1074 + (sa : Int)) (-1074 + (sb : Int))).toNat) := by
  have e1 : ((-1074 + (sa : Int)) - min (-1074 + (sa : Int)) (-1074 + (sb : Int))).toNat = sa - min sa sb := by omega
  have e2 : ((-1074 + (sb : Int)) - min (-1074 + (sa : Int)) (-1074 + (sb : Int))).toNat = sb - min sa sb := by omega
  rw [e1, e2, Nat.shiftLeft_eq, Nat.shiftLeft_eq]
  have p1 : 2 ^ sa = 2 ^ (sa - min sa sb) * 2 ^ (min sa sb) := by rw [← Nat.pow_add]; congr 1; omega
  have p2 : 2 ^ sb = 2 ^ (sb - min sa sb) * 2 ^ (min sa sb) := by rw [← Nat.pow_add]; congr 1; omega
  rw [p1, p2, ← Nat.mul_assoc, ← Nat.mul_assoc] at h
  exact Nat.lt_of_mul_lt_mul_right h

theorem order_lt {a b : Nat} (h : a < b) (hb : b ≤ 9218868437227405312) : double.order a b = some .lt := by
  unfold Format.order
  rw [read_pos a (by omega)]
  by_cases hi : b = 9218868437227405312
  · rw [hi, read_inf]; rfl
  · rw [read_pos b (by omega)]
    simp only [Datum.order, signed]
    have := shl_lt (val_lt h)
    rw [if_neg (by decide), if_neg (by decide), icmp_lt (Int.ofNat_lt.2 this)]
theorem order_gt {a b : Nat} (h : b < a) (hb : a ≤ 9218868437227405312) : double.order a b = some .gt := by
  unfold Format.order
  rw [read_pos b (by omega)]
  by_cases hi : a = 9218868437227405312
  · rw [hi, read_inf]; rfl
  · rw [read_pos a (by omega)]
    simp only [Datum.order, signed]
    have := shl_lt (val_lt h)
    rw [if_neg (by decide), if_neg (by decide), icmp_gt (by rw [Int.min_comm]; exact Int.ofNat_lt.2 this)]
theorem order_self {a : Nat} (h : a ≤ 9218868437227405312) : double.order a a = some .eq := by
  unfold Format.order
  by_cases hi : a = 9218868437227405312
  · rw [hi, read_inf]; rfl
  · rw [read_pos a (by omega)]
    simp only [Datum.order]
    rw [icmp_eq]

/-! ### NaN words and negative words -/
theorem read_nan {g : Nat} (h : 9218868437227405312 < g % 9223372036854775808) : ∃ s t, double.read g = .nan s t := by
  rw [read_eq, if_neg (by omega), if_neg (by omega), if_neg (by omega)]
  exact ⟨_, _, rfl⟩
theorem order_nan_left {g : Nat} (h : 9218868437227405312 < g % 9223372036854775808) (x : Nat) : double.order g x = none := by
  obtain ⟨s, t, e⟩ := read_nan h
  unfold Format.order
  rw [e]; rfl
theorem order_nan_right {g : Nat} (h : 9218868437227405312 < g % 9223372036854775808) (x : Nat) : double.order x g = none := by
  obtain ⟨s, t, e⟩ := read_nan h
  unfold Format.order
  rw [e]
  cases double.read x <;> rfl

theorem read_neg {g : Nat} (h1 : 9223372036854775808 ≤ g) (h2 : g < 18446744073709551616) (h : g % 9223372036854775808 ≤ 9218868437227405312) :
    (∃ m i, double.read g = .number true m i) ∨ double.read g = .infinity true := by
  have e1 : g / 9223372036854775808 = 1 := by omega
  rw [read_eq, e1]
  by_cases c1 : g % 9223372036854775808 < 4503599627370496
  · rw [if_pos c1]; exact .inl ⟨_, _, rfl⟩
  · by_cases c2 : g % 9223372036854775808 < 9218868437227405312
    · rw [if_neg c1, if_pos c2]; exact .inl ⟨_, _, rfl⟩
    · rw [if_neg c1, if_neg c2, if_pos (by omega)]; exact .inr rfl
theorem mag_pos {b : Nat} (h : 0 < b) : 0 < mag b := by unfold mag; split <;> omega
theorem order_neg {g b : Nat} (h1 : 9223372036854775808 ≤ g) (h2 : g < 18446744073709551616) (h : g % 9223372036854775808 ≤ 9218868437227405312) (hb0 : 0 < b) (hb : b ≤ 9218868437227405312) :
    double.order g b = some .lt := by
  unfold Format.order
  rcases read_neg h1 h2 h with ⟨m, i, e⟩ | e
  · rw [e]
    by_cases hi : b = 9218868437227405312
    · rw [hi, read_inf]; rfl
    · rw [read_pos b (by omega)]
      simp only [Datum.order, signed]
      rw [if_pos trivial, if_neg (by decide), icmp_lt]
      have hp := mag_pos hb0
      have : 0 < mag b <<< (-1074 + (sh b : Int) - min i (-1074 + (sh b : Int))).toNat := by
        rw [Nat.shiftLeft_eq]; exact Nat.mul_pos hp (Nat.two_pow_pos _)
      exact Int.lt_of_le_of_lt (Int.neg_nonpos_of_nonneg (Int.natCast_nonneg _)) (Int.ofNat_lt.2 this)
  · rw [e]
    by_cases hi : b = 9218868437227405312
    · rw [hi, read_inf]; rfl
    · rw [read_pos b (by omega)]; rfl
theorem order_neg_self {g : Nat} (h1 : 9223372036854775808 ≤ g) (h2 : g < 18446744073709551616) (h : g % 9223372036854775808 ≤ 9218868437227405312) : double.order g g = some .eq := by
  unfold Format.order
  rcases read_neg h1 h2 h with ⟨m, i, e⟩ | e
  · rw [e]; simp only [Datum.order]; rw [icmp_eq]
  · rw [e]; rfl

/-! ### powers of two, as words -/
/-- The word of 2 ^ (k - 1074). -/
def pw (k : Nat) : Nat := if k < 52 then 2 ^ k else min ((k - 51) * 4503599627370496) 9218868437227405312

theorem cut_exact (n drop : Nat) (q : Nat) (h : n = q * 2 ^ drop) (hq : 0 < q) : Toward.even.cut false n drop = q := by
  have hn : 2 ^ drop ≤ n := by rw [h]; exact Nat.le_mul_of_pos_left _ hq
  have hn0 : n ≠ 0 := by have := Nat.two_pow_pos drop; omega
  have hl : drop ≤ n.log2 := (Nat.le_log2 hn0).2 hn
  unfold Toward.cut
  have e1 : min drop (n.log2 + 2) = drop := by omega
  have e2 : (1 : Nat) <<< drop = 2 ^ drop := by rw [Nat.shiftLeft_eq, Nat.one_mul]
  simp only [e1, e2]
  have e3 : n / 2 ^ drop = q := by rw [h]; exact Nat.mul_div_cancel _ (Nat.two_pow_pos _)
  have e4 : n % 2 ^ drop = 0 := by rw [h]; exact Nat.mul_mod_left _ _
  have hp := Nat.two_pow_pos drop
  rw [e3, e4]
  have e5 : ¬ 2 ^ drop < 2 * 0 := by omega
  have e6 : ¬ 2 ^ drop = 2 * 0 := by omega
  simp

theorem near_eq (m : Nat) (place : Int) (hm : m ≠ 0) : double.nearest false m place = double.word false (min ((max (place + (m.log2 : Int) - double.fractionBits) double.leastPlace - double.leastPlace).toNat * double.binade + Toward.even.cut false (m <<< (place - max (place + (m.log2 : Int) - double.fractionBits) double.leastPlace).toNat) (max (place + (m.log2 : Int) - double.fractionBits) double.leastPlace - place).toNat) double.infRung) := by
  unfold Format.nearest; rw [if_neg hm]
theorem word_false (x : Nat) : double.word false x = x := by unfold Format.word; rw [if_neg (by decide)]
theorem near_exact (m : Nat) (place last : Int) (q : Nat) (hm : m ≠ 0) (hlast : max (place + m.log2 - 52) (-1074) = last)
    (h : m <<< (place - last).toNat = q * 2 ^ (last - place).toNat) (hq : 0 < q) :
    double.nearest false m place = min ((last + 1074).toNat * 4503599627370496 + q) 9218868437227405312 := by
  rw [near_eq m place hm, word_false, fb, lp, bn, ir]
  have e0 : max (place + (m.log2 : Int) - ((52 : Nat) : Int)) (-1074) = last := hlast
  have e1 : last - -1074 = last + 1074 := by omega
  rw [e0, e1, cut_exact _ _ q h hq]

theorem near_pow (q : Nat) (r : Int) (k : Nat) (hk : (q : Int) + r + 1074 = k) : double.nearest false (2 ^ q) r = pw k := by
  have hlog : (2 ^ q).log2 = q := Nat.log2_two_pow
  have h0 : (2 ^ q) ≠ 0 := Nat.ne_of_gt (Nat.two_pow_pos q)
  unfold pw
  by_cases hc : k < 52
  · rw [if_pos hc, near_exact (2 ^ q) r (-1074) (2 ^ k) h0 (by rw [hlog]; omega) ?_ (Nat.two_pow_pos _)]
    · have : (2 : Nat) ^ k ≤ 2 ^ 51 := Nat.pow_le_pow_right (by omega) (by omega)
      have e : ((-1074 : Int) + 1074).toNat = 0 := rfl
      rw [e]; omega
    · rw [Nat.shiftLeft_eq, ← Nat.pow_add, ← Nat.pow_add]; congr 1; omega
  · rw [if_neg hc, near_exact (2 ^ q) r (k - 1074 - 52) (2 ^ 52) h0 (by rw [hlog]; omega) ?_ (Nat.two_pow_pos _)]
    · have e : (((k : Int) - 1074 - 52) + 1074).toNat = k - 52 := by omega
      rw [e]
      have : (k - 52) * 4503599627370496 + 2 ^ 52 = (k - 51) * 4503599627370496 := by omega
      rw [this]
    · rw [Nat.shiftLeft_eq, ← Nat.pow_add, ← Nat.pow_add]; congr 1; omega

/-! ### products by powers of two -/
theorem pw_le (k : Nat) : pw k ≤ 9218868437227405312 := by
  unfold pw
  split
  · have : (2 : Nat) ^ k ≤ 2 ^ 51 := Nat.pow_le_pow_right (by omega) (by omega)
    omega
  · omega
theorem pw_lt {k : Nat} (h : k < 2098) : pw k < 9218868437227405312 := by
  unfold pw
  split
  · have : (2 : Nat) ^ k ≤ 2 ^ 51 := Nat.pow_le_pow_right (by omega) (by omega)
    omega
  · omega
theorem pw_pos (k : Nat) : 0 < pw k := by
  unfold pw
  split
  · exact Nat.two_pow_pos k
  · omega
theorem pw_inf {k : Nat} (h : 2098 ≤ k) : pw k = 9218868437227405312 := by
  unfold pw; rw [if_neg (by omega)]; omega
theorem pw_mono {j k : Nat} (h : j < k) (hk : k ≤ 2098) : pw j < pw k := by
  unfold pw
  by_cases h1 : k < 52
  · rw [if_pos (by omega), if_pos h1]; exact Nat.pow_lt_pow_right (by omega) h
  · rw [if_neg h1]
    by_cases h2 : j < 52
    · rw [if_pos h2]
      have : (2 : Nat) ^ j ≤ 2 ^ 51 := Nat.pow_le_pow_right (by omega) (by omega)
      omega
    · rw [if_neg h2]; omega

/-- What the word of a power of two stands for. -/
theorem read_pw {k : Nat} (h : k < 2098) : ∃ (q : Nat) (r : Int), double.read (pw k) = .number false (2 ^ q) r ∧ (q : Int) + r + 1074 = k := by
  rw [read_pos _ (pw_lt h)]
  by_cases hc : k < 52
  · have e : pw k = 2 ^ k := by unfold pw; rw [if_pos hc]
    have hl : (2 : Nat) ^ k < 4503599627370496 := by
      have : (2 : Nat) ^ k ≤ 2 ^ 51 := Nat.pow_le_pow_right (by omega) (by omega)
      omega
    refine ⟨k, -1074, ?_, by omega⟩
    have e1 : mag (2 ^ k) = 2 ^ k := by unfold mag; rw [if_pos hl]
    have e2 : sh (2 ^ k) = 0 := by unfold sh; omega
    rw [e, e1, e2]; rfl
  · have e : pw k = (k - 51) * 4503599627370496 := by unfold pw; rw [if_neg hc]; omega
    refine ⟨52, -1074 + ((k - 52 : Nat) : Int), ?_, by omega⟩
    have e1 : mag ((k - 51) * 4503599627370496) = 2 ^ 52 := by unfold mag; rw [if_neg (by omega)]; omega
    have e2 : sh ((k - 51) * 4503599627370496) = k - 52 := by unfold sh; omega
    rw [e, e1, e2]

theorem read_p52 : double.read 4841369599423283200 = .number false (2 ^ 52) 0 := by decide +kernel
theorem read_two : double.read 4611686018427387904 = .number false (2 ^ 52) (-51) := by decide +kernel
theorem read_one : double.read 4607182418800017408 = .number false (2 ^ 52) (-52) := by decide +kernel

theorem mul_two {k : Nat} (h : k < 2098) : double.mul (pw k) 4611686018427387904 = some (pw (k + 1)) := by
  obtain ⟨q, r, e, hq⟩ := read_pw h
  unfold Format.mul
  rw [e, read_two]
  show some (double.nearest (false ^^ false) (2 ^ q * 2 ^ 52) (r + -51)) = _
  rw [← Nat.pow_add]
  exact congrArg some (near_pow (q + 52) (r + -51) (k + 1) (by omega))
theorem mul_one {k : Nat} (h : k < 2098) : double.mul 4607182418800017408 (pw k) = some (pw k) := by
  obtain ⟨q, r, e, hq⟩ := read_pw h
  unfold Format.mul
  rw [e, read_one]
  show some (double.nearest (false ^^ false) (2 ^ 52 * 2 ^ q) (-52 + r)) = _
  rw [← Nat.pow_add]
  exact congrArg some (near_pow (52 + q) (-52 + r) k (by omega))
theorem mul_p52 {k : Nat} (h : k < 2098) : double.mul (pw k) 4841369599423283200 = some (pw (k + 52)) := by
  obtain ⟨q, r, e, hq⟩ := read_pw h
  unfold Format.mul
  rw [e, read_p52]
  show some (double.nearest (false ^^ false) (2 ^ q * 2 ^ 52) (r + 0)) = _
  rw [← Nat.pow_add]
  exact congrArg some (near_pow (q + 52) (r + 0) (k + 52) (by omega))
theorem mul_p52_inf : double.mul 9218868437227405312 4841369599423283200 = some 9218868437227405312 := by
  unfold Format.mul
  rw [read_inf, read_p52]
  decide +kernel

/-- normalize: a subnormal number times 2 ^ 52. -/
theorem mul_sub {g : Nat} (h0 : 0 < g) (h : g < 4503599627370496) : double.mul g 4841369599423283200 = some (g.log2 * 4503599627370496 + g * 2 ^ (52 - g.log2)) := by
  have hl : g.log2 < 52 := (Nat.log2_lt (by omega)).2 h
  have hg1 : 2 ^ g.log2 ≤ g := Nat.log2_self_le (by omega)
  have hg2 : g < 2 ^ (g.log2 + 1) := Nat.lt_log2_self
  unfold Format.mul
  have e1 : mag g = g := by unfold mag; rw [if_pos h]
  have e2 : sh g = 0 := by unfold sh; omega
  rw [read_pos g (by omega), e1, e2, read_p52]
  show some (double.nearest (false ^^ false) (g * 2 ^ 52) (-1074 + ((0 : Nat) : Int) + 0)) = _
  have hlog : (g * 2 ^ 52).log2 = g.log2 + 52 := by
    have hne : g * 2 ^ 52 ≠ 0 := by omega
    have a1 : g.log2 + 52 ≤ (g * 2 ^ 52).log2 := (Nat.le_log2 hne).2 (by rw [Nat.pow_add]; exact Nat.mul_le_mul_right _ hg1)
    have a2 : (g * 2 ^ 52).log2 < g.log2 + 52 + 1 := (Nat.log2_lt hne).2 (by
      rw [show g.log2 + 52 + 1 = (g.log2 + 1) + 52 by omega, Nat.pow_add]; exact Nat.mul_lt_mul_of_pos_right hg2 (Nat.two_pow_pos _))
    omega
  have hsplit : (2 : Nat) ^ 52 = 2 ^ (52 - g.log2) * 2 ^ g.log2 := by rw [← Nat.pow_add]; congr 1; omega
  have hq : 0 < g * 2 ^ (52 - g.log2) := Nat.mul_pos h0 (Nat.two_pow_pos _)
  have hub : g * 2 ^ (52 - g.log2) < 9007199254740992 := by
    have : g * 2 ^ (52 - g.log2) < 2 ^ (g.log2 + 1) * 2 ^ (52 - g.log2) := Nat.mul_lt_mul_of_pos_right hg2 (Nat.two_pow_pos _)
    rw [← Nat.pow_add, show g.log2 + 1 + (52 - g.log2) = 53 by omega] at this
    omega
  have hn := near_exact (g * 2 ^ 52) (-1074 + ((0 : Nat) : Int) + 0) (-1074 + (g.log2 : Int)) (g * 2 ^ (52 - g.log2)) (by omega) (by rw [hlog]; omega) (by
      have z1 : (-1074 + ((0 : Nat) : Int) + 0 - (-1074 + (g.log2 : Int))).toNat = 0 := by omega
      have z2 : (-1074 + (g.log2 : Int) - (-1074 + ((0 : Nat) : Int) + 0)).toNat = g.log2 := by omega
      rw [z1, z2, Nat.shiftLeft_eq, Nat.pow_zero, Nat.mul_one, Nat.mul_assoc, ← hsplit]) hq
  have z3 : (-1074 + (g.log2 : Int) + 1074).toNat = g.log2 := by omega
  rw [z3] at hn
  refine congrArg some (hn.trans ?_)
  apply Nat.min_eq_left
  omega

/-! ### the least power of two at or above a word -/
/-- Of a positive finite word g the least k with 'g ≤ pw k'. -/
def kk (g : Nat) : Nat :=
  if g < 4503599627370496 then (if g = 2 ^ g.log2 then g.log2 else g.log2 + 1)
  else g / 4503599627370496 + 51 + (if g % 4503599627370496 = 0 then 0 else 1)

theorem kk_le {g : Nat} (h0 : 0 < g) (h : g < 9218868437227405312) : kk g ≤ 2098 := by
  unfold kk
  by_cases hc : g < 4503599627370496
  · have hl : g.log2 < 52 := (Nat.log2_lt (by omega)).2 hc
    rw [if_pos hc]; split <;> omega
  · rw [if_neg hc]; split <;> omega
theorem kk_pos {g : Nat} (h0 : 2 ≤ g) : 1 ≤ kk g := by
  unfold kk
  by_cases hc : g < 4503599627370496
  · have hl : 1 ≤ g.log2 := (Nat.le_log2 (by omega)).2 (by omega)
    rw [if_pos hc]; split <;> omega
  · rw [if_neg hc]; split <;> omega
theorem kk_ge {g : Nat} (h0 : 0 < g) (h : g < 9218868437227405312) : g ≤ pw (kk g) := by
  unfold kk
  by_cases hc : g < 4503599627370496
  · have hl : g.log2 < 52 := (Nat.log2_lt (by omega)).2 hc
    have hg2 : g < 2 ^ (g.log2 + 1) := Nat.lt_log2_self
    rw [if_pos hc]
    by_cases he : g = 2 ^ g.log2
    · rw [if_pos he]
      unfold pw; rw [if_pos hl]; omega
    · rw [if_neg he]
      unfold pw
      by_cases hx : g.log2 + 1 < 52
      · rw [if_pos hx]; omega
      · rw [if_neg hx]; omega
  · rw [if_neg hc]
    unfold pw
    split <;> rw [if_neg (by omega)] <;> omega
theorem kk_lt {g : Nat} (h0 : 0 < g) (h : g < 9218868437227405312) {j : Nat} (hj : j < kk g) : pw j < g := by
  unfold kk at hj
  by_cases hc : g < 4503599627370496
  · have hl : g.log2 < 52 := (Nat.log2_lt (by omega)).2 hc
    have hg1 : 2 ^ g.log2 ≤ g := Nat.log2_self_le (by omega)
    rw [if_pos hc] at hj
    by_cases he : g = 2 ^ g.log2
    · rw [if_pos he] at hj
      unfold pw; rw [if_pos (by omega)]
      have : (2 : Nat) ^ j < 2 ^ g.log2 := Nat.pow_lt_pow_right (by omega) hj
      omega
    · rw [if_neg he] at hj
      unfold pw; rw [if_pos (by omega)]
      have : (2 : Nat) ^ j ≤ 2 ^ g.log2 := Nat.pow_le_pow_right (by omega) (by omega)
      omega
  · rw [if_neg hc] at hj
    unfold pw
    by_cases h2 : j < 52
    · rw [if_pos h2]
      have : (2 : Nat) ^ j ≤ 2 ^ 51 := Nat.pow_le_pow_right (by omega) (by omega)
      omega
    · rw [if_neg h2]
      split at hj <;> omega

/-- What Frexp's second half works on: the word itself, or, of a subnormal one, 2 ^ 52 times it. -/
def norm (g : Nat) : Nat := if g < 4503599627370496 then g.log2 * 4503599627370496 + g * 2 ^ (52 - g.log2) else g

theorem norm_parts {g : Nat} (h0 : 0 < g) (h : g < 9218868437227405312) : 4503599627370496 ≤ norm g ∧ norm g < 9218868437227405312 ∧
    (norm g / 4503599627370496 : Nat) + (if g < 4503599627370496 then 0 else 52) + (if norm g % 4503599627370496 = 0 then 0 else 1) = kk g + 1 := by
  unfold norm kk
  by_cases hc : g < 4503599627370496
  · have hl : g.log2 < 52 := (Nat.log2_lt (by omega)).2 hc
    have hg1 : 2 ^ g.log2 ≤ g := Nat.log2_self_le (by omega)
    have hg2 : g < 2 ^ (g.log2 + 1) := Nat.lt_log2_self
    have hp := Nat.two_pow_pos (52 - g.log2)
    have a1 : 2 ^ g.log2 * 2 ^ (52 - g.log2) = 4503599627370496 := by rw [← Nat.pow_add, show g.log2 + (52 - g.log2) = 52 by omega]
    have a2 : 2 ^ g.log2 * 2 ^ (52 - g.log2) ≤ g * 2 ^ (52 - g.log2) := Nat.mul_le_mul_right _ hg1
    have a3 : g * 2 ^ (52 - g.log2) < 9007199254740992 := by
      have : g * 2 ^ (52 - g.log2) < 2 ^ (g.log2 + 1) * 2 ^ (52 - g.log2) := Nat.mul_lt_mul_of_pos_right hg2 hp
      rw [← Nat.pow_add, show g.log2 + 1 + (52 - g.log2) = 53 by omega] at this
      omega
    rw [if_pos hc, if_pos hc, if_pos hc]
    by_cases he : g = 2 ^ g.log2
    · have a4 : g * 2 ^ (52 - g.log2) = 4503599627370496 := by rw [← a1]; exact congrArg (· * 2 ^ (52 - g.log2)) he
      rw [if_pos he, a4]
      refine ⟨by omega, by omega, ?_⟩
      rw [if_pos (by omega)]; omega
    · have a5 : 2 ^ g.log2 * 2 ^ (52 - g.log2) < g * 2 ^ (52 - g.log2) := Nat.mul_lt_mul_of_pos_right (by omega) hp
      rw [if_neg he]
      generalize g * 2 ^ (52 - g.log2) = y at *
      refine ⟨by omega, by omega, ?_⟩
      rw [if_neg (by omega)]; omega
  · rw [if_neg hc, if_neg hc, if_neg hc]
    refine ⟨by omega, h, ?_⟩
    split <;> omega
end Go.Proofs.Ybulkctfm.Dbl
