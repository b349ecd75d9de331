/-
  THE CALLEES OF LawS4744AModel: math's Abs, IsInf, IsNaN, normalize, Frexp and the law's own comparison, each by a contract.
-/
import Derived.Test.YbulkctfmProg
import Derived.Test.YbulkctfmIeee
import Derived.WalkKit
import Derived.WalkLawsBesides
import Derived.Laws.FloatArith
import Derived.Laws.BitsAllLaws
import Derived.Below
import Derived.WalkSmall
namespace Go.Proofs.Ybulkctfm
open Go.RowKit
open Dbl
set_option linter.unusedVariables false
theorem q36 (b : Nat) (w : World) : (callFunc 36 #[.float .f64 b]).run Yba.prog w = .ok (.value (.int .u64 b)) w := by
  rw [run_callFunc_extern (e := Extern.MathFloatBits.float64bits) Yba.func36 (by kernel_rfl) (by kernel_rfl) (by kernel_rfl) (by kernel_rfl)]
  rfl
theorem q14 (n : Int) (w : World) : (callFunc 14 #[.int .u64 n]).run Yba.prog w = .ok (.value (.float .f64 n.toNat)) w := by
  rw [run_callFunc_extern (e := Extern.MathFloatBits.float64frombits) Yba.func14 (by kernel_rfl) (by kernel_rfl) (by kernel_rfl) (by kernel_rfl)]
  rfl
theorem fmt64 : FloatKind.f64.format = Ieee.double := rfl

theorem bits_abs (g : Nat) (h : g < 18446744073709551616) : bits .andNot .u64 (g : Int) 9223372036854775808 = ((g % 9223372036854775808 : Nat) : Int) := by
  have := u64_andNot_nat g 9223372036854775808 h (by omega)
  rw [show ((9223372036854775808 : Nat) : Int) = 9223372036854775808 from rfl] at this
  rw [this]
  have e : 18446744073709551615 - 9223372036854775808 = 2 ^ 63 - 1 := by decide
  rw [e, Nat.and_two_pow_sub_one_eq_mod]
theorem bits_frac (x : Nat) (h : x < 9223372036854775808) : bits .andNot .u64 (x : Int) 9218868437227405312 = ((x % 4503599627370496 : Nat) : Int) := by
  have := u64_andNot_nat x 9218868437227405312 (by omega) (by omega)
  rw [show ((9218868437227405312 : Nat) : Int) = 9218868437227405312 from rfl] at this
  rw [this]
  have e : 18446744073709551615 - 9218868437227405312 = 2 ^ 63 ||| (2 ^ 52 - 1) := by decide
  rw [e, Nat.and_or_distrib_left, nat_bit, Nat.and_two_pow_sub_one_eq_mod]
  have z : x / 2 ^ 63 = 0 := by omega
  rw [z]; simp
theorem bits_half (m : Nat) (h : m < 4503599627370496) : bits .or .u64 (m : Int) 4602678819172646912 = ((m + 4602678819172646912 : Nat) : Int) := by
  have := u64_or_nat m 4602678819172646912 (by omega) (by omega)
  rw [show ((4602678819172646912 : Nat) : Int) = 4602678819172646912 from rfl] at this
  rw [this, Nat.or_comm, nat_join 52 4602678819172646912 m (by decide) (by omega)]
  congr 1; omega
theorem bits_2047 (x : Nat) (h : x < 2048) : bits .and .u64 (x : Int) 2047 = (x : Int) := by
  have := u64_and_nat x 2047 (by omega) (by omega)
  rw [show ((2047 : Nat) : Int) = 2047 from rfl] at this
  rw [this, show 2047 = 2 ^ 11 - 1 from rfl, Nat.and_two_pow_sub_one_eq_mod]
  congr 1; omega

theorem wrap_id (n : Int) (h1 : -1000000 ≤ n) (h2 : n ≤ 1000000) : wrap64 n = n := by
  unfold wrap64; omega

theorem abs_any (g : Nat) (h : g < 18446744073709551616) (w : World) :
    Calls Yba.prog 40 #[.float .f64 g] w fun e w' => e = .returned (.float .f64 (g % 9223372036854775808)) ∧ w' = w := by
  have h1 := q36
  have h2 := q14
  go_enter Yba.func40, Yba.ntmps40
  go_wp2
  go_ret
  refine ⟨?_, rfl⟩
  show Ending.returned (.float .f64 (bits .andNot .u64 (g : Int) 9223372036854775808).toNat) = _
  rw [bits_abs g h, Int.toNat_natCast]

theorem isinf_any (g : Nat) (h : g < 18446744073709551616) (b : Bool) (hb : (Ieee.double.order (g % 9223372036854775808) 9218868437227405311 == some .gt) = b) (w : World) :
    Calls Yba.prog 33 #[.float .f64 g, .int .i64 0] w fun e w' => e = .returned (.bool b) ∧ w' = w := by
  go_enter Yba.func33, Yba.ntmps33
  go_wp2_with (go_at_call 40; refine (abs_any g h _).mono ?_; rintro e w' ⟨rfl, rfl⟩)
  go_ret
  refine ⟨?_, rfl⟩
  show Ending.returned (.bool (Ieee.double.order (g % 9223372036854775808) 9218868437227405311 == some .gt)) = _
  rw [hb]

theorem isnan_any (g : Nat) (b : Bool) (hb : (Ieee.double.order g g != some .eq) = b) (w : World) :
    Calls Yba.prog 34 #[.float .f64 g] w fun e w' => e = .returned (.bool b) ∧ w' = w := by
  go_enter Yba.func34, Yba.ntmps34
  go_wp2
  go_ret
  refine ⟨?_, rfl⟩
  show Ending.returned (.bool (Ieee.double.order g g != some .eq)) = _
  rw [hb]

theorem aeq_any (a b : Nat) (h : a = b ∨ (9218868437227405312 < a % 9223372036854775808 ∧ 9218868437227405312 < b % 9223372036854775808)) (w : World) :
    Calls Yba.prog 6 #[.float .f64 a, .float .f64 b] w fun e w' => e = .returned (.bool true) ∧ w' = w := by
  rcases h with rfl | ⟨h1, h2⟩
  · go_enter Yba.func6, Yba.ntmps6
    go_wp2
    · go_ret
      exact ⟨rfl, rfl⟩
    · have ht : (FloatKind.f64.format.order a a != some Ordering.eq) = false := by assumption
      go_ret
      refine ⟨?_, rfl⟩
      show Ending.returned (.bool (FloatKind.f64.format.order a a == some Ordering.eq)) = _
      have : (FloatKind.f64.format.order a a == some Ordering.eq) = true := by
        cases hx : (FloatKind.f64.format.order a a == some Ordering.eq)
        · rw [bne, hx] at ht; cases ht
        · rfl
      rw [this]
  · have e1 : (FloatKind.f64.format.order a a != some Ordering.eq) = true := by rw [fmt64, order_nan_left h1]; rfl
    have e2 : (FloatKind.f64.format.order b b != some Ordering.eq) = true := by rw [fmt64, order_nan_left h2]; rfl
    go_enter Yba.func6, Yba.ntmps6
    go_wp2
    go_ret
    exact ⟨rfl, rfl⟩

/-- normalize at a normal number. -/
theorem norm_big (g : Nat) (h0 : 4503599627370496 ≤ g) (h : g ≤ 9218868437227405312) (w : World) :
    Calls Yba.prog 35 #[.float .f64 g] w fun e w' => e = .returned (.tuple #[.float .f64 g, .int .i64 0]) ∧ w' = w := by
  have e0 : g % 9223372036854775808 = g := by omega
  have ho : (FloatKind.f64.format.order g 4503599627370496 == some Ordering.lt) = false := by
    rw [fmt64]
    rcases Nat.lt_or_ge 4503599627370496 g with hx | hx
    · rw [order_gt hx h]; rfl
    · have : g = 4503599627370496 := by omega
      rw [this, order_self (by omega)]; rfl
  have ha := abs_any g (by omega)
  rw [e0] at ha
  have HA : Hid (∀ w, Calls Yba.prog 40 #[.float .f64 g] w fun e w' => e = .returned (.float .f64 g) ∧ w' = w) := ha
  clear ha e0
  go_enter Yba.func35, Yba.ntmps35
  go_wp2_with (go_at_call 40; refine (HA.out _).mono ?_; rintro e w' ⟨rfl, rfl⟩)
  go_ret2
  exact ⟨rfl, rfl⟩
/-- normalize at a subnormal number. -/
theorem norm_small (g : Nat) (h0 : 0 < g) (h : g < 4503599627370496) (w : World) :
    Calls Yba.prog 35 #[.float .f64 g] w fun e w' => e = .returned (.tuple #[.float .f64 (norm g), .int .i64 (-52)]) ∧ w' = w := by
  have e0 : g % 9223372036854775808 = g := by omega
  have ho : (FloatKind.f64.format.order g 4503599627370496 == some Ordering.lt) = true := by
    rw [fmt64, order_lt h (by omega)]; rfl
  have ha := abs_any g (by omega)
  rw [e0] at ha
  have HA : Hid (∀ w, Calls Yba.prog 40 #[.float .f64 g] w fun e w' => e = .returned (.float .f64 g) ∧ w' = w) := ha
  have hn : norm g = g.log2 * 4503599627370496 + g * 2 ^ (52 - g.log2) := by unfold norm; rw [if_pos h]
  have hm : ∀ t w, (binOp .mul t (.float .f64 g) (.float .f64 4841369599423283200)).run Yba.prog w = .ok (.float .f64 (norm g)) w := fun t w =>
    run_float_arith w .mul t .f64 g 4841369599423283200 (norm g) (by rw [hn]; exact mul_sub h0 h)
  clear ha e0 hn
  go_enter Yba.func35, Yba.ntmps35
  go_wp2_with (go_at_call 40; refine (HA.out _).mono ?_; rintro e w' ⟨rfl, rfl⟩)
  go_ret2
  exact ⟨rfl, rfl⟩

/-- Frexp at a NaN or at +Inf: the number itself and 0. -/
theorem frexp_out (g : Nat) (h64 : g < 18446744073709551616) (h : 9218868437227405312 < g % 9223372036854775808 ∨ g = 9218868437227405312) (w : World) :
    Calls Yba.prog 12 #[.float .f64 g] w fun e w' => e = .returned (.tuple #[.float .f64 g, .int .i64 0]) ∧ w' = w := by
  have h0 : (FloatKind.f64.format.order g 0 == some Ordering.eq) = false := by
    rw [fmt64]
    rcases h with h | h
    · rw [order_nan_left h]; rfl
    · rw [h, order_gt (by omega) (by omega)]; rfl
  rcases h with h | h
  · have hi : (Ieee.double.order (g % 9223372036854775808) 9218868437227405311 == some .gt) = false := by
      rw [order_nan_left (by omega)]; rfl
    have hn : (Ieee.double.order g g != some .eq) = true := by rw [order_nan_left h]; rfl
    have HI := fun w => isinf_any g h64 false hi w
    have HN := fun w => isnan_any g true hn w
    have HI' : Hid (∀ w, Calls Yba.prog 33 #[.float .f64 g, .int .i64 0] w fun e w' => e = .returned (.bool false) ∧ w' = w) := HI
    have HN' : Hid (∀ w, Calls Yba.prog 34 #[.float .f64 g] w fun e w' => e = .returned (.bool true) ∧ w' = w) := HN
    clear HI HN hi hn h
    go_enter Yba.func12, Yba.ntmps12
    go_wp2_with (first
      | (go_at_call 21; go_in)
      | (go_at_call 33; refine (HI'.out _).mono ?_; rintro e w' ⟨rfl, rfl⟩)
      | (go_at_call 34; refine (HN'.out _).mono ?_; rintro e w' ⟨rfl, rfl⟩))
    go_ret2
    exact ⟨rfl, rfl⟩
  · subst h
    have hi : (Ieee.double.order (9218868437227405312 % 9223372036854775808) 9218868437227405311 == some .gt) = true := by
      rw [show 9218868437227405312 % 9223372036854775808 = 9218868437227405312 from rfl, order_gt (by omega) (by omega)]; rfl
    have HI := fun w => isinf_any 9218868437227405312 h64 true hi w
    have HI' : Hid (∀ w, Calls Yba.prog 33 #[.float .f64 9218868437227405312, .int .i64 0] w fun e w' => e = .returned (.bool true) ∧ w' = w) := HI
    clear HI hi
    go_enter Yba.func12, Yba.ntmps12
    go_wp2_with (first
      | (go_at_call 21; go_in)
      | (go_at_call 33; refine (HI'.out _).mono ?_; rintro e w' ⟨rfl, rfl⟩))
    go_ret2
    exact ⟨rfl, rfl⟩

/-- Frexp's second half, at a normal word x with what normalize took off. -/
theorem frexp_tail (g x : Nat) (ex : Int) (hex : ex = 0 ∨ ex = -52) (h0 : 0 < g) (h : g < 9218868437227405312) (hx0 : 4503599627370496 ≤ x) (hx : x < 9218868437227405312)
    (hc : ∀ w, Calls Yba.prog 35 #[.float .f64 g] w fun e w' => e = .returned (.tuple #[.float .f64 x, .int .i64 ex]) ∧ w' = w) (w : World) :
    Calls Yba.prog 12 #[.float .f64 g] w fun e w' => e = .returned (.tuple #[.float .f64 (x % 4503599627370496 + 4602678819172646912), .int .i64 (ex + ((x / 4503599627370496 : Nat) : Int) - 1022)]) ∧ w' = w := by
  have z0 : (FloatKind.f64.format.order g 0 == some Ordering.eq) = false := by
    rw [fmt64, order_gt h0 (by omega)]; rfl
  have hi : (Ieee.double.order (g % 9223372036854775808) 9218868437227405311 == some .gt) = false := by
    rw [show g % 9223372036854775808 = g by omega]
    rcases Nat.lt_or_ge g 9218868437227405311 with hh | hh
    · rw [order_lt hh (by omega)]; rfl
    · have : g = 9218868437227405311 := by omega
      rw [this, order_self (by omega)]; rfl
  have hn : (Ieee.double.order g g != some .eq) = false := by rw [order_self (by omega)]; rfl
  have HI' : Hid (∀ w, Calls Yba.prog 33 #[.float .f64 g, .int .i64 0] w fun e w' => e = .returned (.bool false) ∧ w' = w) := fun w => isinf_any g (by omega) false hi w
  have HN' : Hid (∀ w, Calls Yba.prog 34 #[.float .f64 g] w fun e w' => e = .returned (.bool false) ∧ w' = w) := fun w => isnan_any g false hn w
  have HC : Hid (∀ w, Calls Yba.prog 35 #[.float .f64 g] w fun e w' => e = .returned (.tuple #[.float .f64 x, .int .i64 ex]) ∧ w' = w) := hc
  have h1 := q36
  have h2 := q14
  clear hi hn hc
  go_enter Yba.func12, Yba.ntmps12
  go_wp2_with (first
    | (go_at_call 21; go_in)
    | (go_at_call 33; refine (HI'.out _).mono ?_; rintro e w' ⟨rfl, rfl⟩)
    | (go_at_call 34; refine (HN'.out _).mono ?_; rintro e w' ⟨rfl, rfl⟩)
    | (go_at_call 35; refine (HC.out _).mono ?_; rintro e w' ⟨rfl, rfl⟩))
  go_ret2
  refine ⟨?_, rfl⟩
  show Ending.returned (.tuple #[.float .f64 (bits .or .u64 (bits .andNot .u64 (x : Int) 9218868437227405312) 4602678819172646912).toNat,
    .int .i64 (wrap64 (ex + wrap64 (wrap64 (wrap64 (bits .and .u64 ((x : Int) / 4503599627370496) 2047) - 1023) + 1)))]) = _
  have d1 : ((x : Int) / 4503599627370496) = ((x / 4503599627370496 : Nat) : Int) := rfl
  rw [bits_frac x (by omega), bits_half _ (by omega), Int.toNat_natCast, d1, bits_2047 _ (by omega)]
  generalize x / 4503599627370496 = y at *
  have hy : y < 2048 := by omega
  rw [wrap_id (y : Int) (by omega) (by omega), wrap_id ((y : Int) - 1023) (by omega) (by omega), wrap_id ((y : Int) - 1023 + 1) (by omega) (by omega), wrap_id (ex + ((y : Int) - 1023 + 1)) (by omega) (by omega)]
  have e9 : ex + ((y : Int) - 1023 + 1) = ex + (y : Int) - 1022 := by omega
  rw [e9]
end Go.Proofs.Ybulkctfm
