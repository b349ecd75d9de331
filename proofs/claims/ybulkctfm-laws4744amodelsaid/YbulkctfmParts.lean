/-
  Ldexp(1, e) by a contract; what 'a - d' gives, a drawn NaN included; the one law of both functions ('Ap'), and that it leaves the law's comparison no way but true.
-/
import Derived.Test.YbulkctfmMath
namespace Go.Proofs.Ybulkctfm
open Go.RowKit
open Dbl
set_option linter.unusedVariables false
theorem norm_one (w : World) : Calls Yba.prog 35 #[.float .f64 4607182418800017408] w fun e w' => e = .returned (.tuple #[.float .f64 4607182418800017408, .int .i64 0]) ∧ w' = w := norm_big 4607182418800017408 (by omega) (by omega) w

theorem inf_one (w : World) : Calls Yba.prog 8 #[.int .i64 1] w fun e w' => e = .returned (.float .f64 9218868437227405312) ∧ w' = w := by
  have h2 := q14
  go_enter Yba.func8, Yba.ntmps8
  go_wp2
  go_ret
  exact ⟨rfl, rfl⟩

/-- Ldexp(1, e) over the range that the law comes to. -/
theorem ldexp_one (e : Int) (h1 : -1021 ≤ e) (h2 : e ≤ 1076) (w : World) :
    Calls Yba.prog 13 #[.float .f64 4607182418800017408, .int .i64 e] w fun r w' => r = .returned (.float .f64 (pw (e + 1074).toNat)) ∧ w' = w := by
  have z0 : (FloatKind.f64.format.order 4607182418800017408 0 == some Ordering.eq) = false := by
    rw [fmt64, order_gt (by omega) (by omega)]; rfl
  have z1 : (FloatKind.f64.format.order 4607182418800017408 0 == some Ordering.lt) = false := by
    rw [fmt64, order_gt (by omega) (by omega)]; rfl
  have hi : (Ieee.double.order (4607182418800017408 % 9223372036854775808) 9218868437227405311 == some .gt) = false := by
    rw [show 4607182418800017408 % 9223372036854775808 = 4607182418800017408 from rfl, order_lt (by omega) (by omega)]; rfl
  have hn : (Ieee.double.order 4607182418800017408 4607182418800017408 != some .eq) = false := by rw [order_self (by omega)]; rfl
  have HI' : Hid (∀ w, Calls Yba.prog 33 #[.float .f64 4607182418800017408, .int .i64 0] w fun e w' => e = .returned (.bool false) ∧ w' = w) := fun w => isinf_any 4607182418800017408 (by omega) false hi w
  have HN' : Hid (∀ w, Calls Yba.prog 34 #[.float .f64 4607182418800017408] w fun e w' => e = .returned (.bool false) ∧ w' = w) := fun w => isnan_any 4607182418800017408 false hn w
  have h3 := q36
  have h4 := q14
  have hb1 : bits .and .i64 1023 2047 = 1023 := by decide +kernel
  have hb2 : bits .andNot .u64 4607182418800017408 9218868437227405312 = 0 := by decide +kernel
  clear hi hn
  by_cases hc : 1023 < e
  · have hp : Hid (pw (e + 1074).toNat = 9218868437227405312) := pw_inf (by omega)
    go_enter Yba.func13, Yba.ntmps13
    go_wp2_with (first
      | (go_at_call 23; go_in)
      | (go_at_call 33; refine (HI'.out _).mono ?_; rintro e w' ⟨rfl, rfl⟩)
      | (go_at_call 34; refine (HN'.out _).mono ?_; rintro e w' ⟨rfl, rfl⟩)
      | (go_at_call 35; refine (norm_one _).mono ?_; rintro e w' ⟨rfl, rfl⟩)
      | (go_at_call 8; refine (inf_one _).mono ?_; rintro e w' ⟨rfl, rfl⟩))
    go_ret
    refine ⟨?_, rfl⟩
    show Ending.returned (.float .f64 9218868437227405312) = _
    rw [hp.out]
  · have hm : ∀ t w, (binOp .mul t (.float .f64 4607182418800017408) (.float .f64 (bits .or .u64 0 ((e + 1023) * 4503599627370496)).toNat)).run Yba.prog w = .ok (.float .f64 (pw (e + 1074).toNat)) w := by
      intro t w
      have hY : bits .or .u64 0 ((e + 1023) * 4503599627370496) = ((pw (e + 1074).toNat : Nat) : Int) := by
        obtain ⟨n, hn⟩ : ∃ n : Nat, e + 1023 = (n : Int) := Int.eq_ofNat_of_zero_le (by omega)
        have hk : (e + 1074).toNat = n + 51 := by omega
        have hpw : pw (n + 51) = n * 4503599627370496 := by unfold pw; rw [if_neg (by omega)]; omega
        have := u64_or_nat 0 (n * 4503599627370496) (by omega) (by omega)
        rw [Nat.zero_or] at this
        rw [hn, hk, hpw, ← this]
        rfl
      rw [hY, Int.toNat_natCast]
      exact run_float_arith w .mul t .f64 _ _ _ (mul_one (by omega))
    go_enter Yba.func13, Yba.ntmps13
    go_wp2_with (first
      | (go_at_call 23; go_in)
      | (go_at_call 33; refine (HI'.out _).mono ?_; rintro e w' ⟨rfl, rfl⟩)
      | (go_at_call 34; refine (HN'.out _).mono ?_; rintro e w' ⟨rfl, rfl⟩)
      | (go_at_call 35; refine (norm_one _).mono ?_; rintro e w' ⟨rfl, rfl⟩))
    go_ret
    exact ⟨rfl, rfl⟩
/-- r is what 'a - d' may give: the one word, or a NaN where there is none. -/
def Out (a d r : Nat) : Prop := Ieee.double.sub a d = some r ∨ (Ieee.double.sub a d = none ∧ 9218868437227405312 < r % 9223372036854775808)

theorem nan_cut (t : Nat) : 9218868437227405312 < ((t % 2) * 2 ^ 63 + 0x7ff0000000000000 + 1 + (t / 2) % (2 ^ 52 - 1)) % 9223372036854775808 ∧ (t % 2) * 2 ^ 63 + 0x7ff0000000000000 + 1 + (t / 2) % (2 ^ 52 - 1) < 18446744073709551616 := by
  have h1 : (t / 2) % (2 ^ 52 - 1) < 2 ^ 52 - 1 := Nat.mod_lt _ (by decide)
  generalize (t / 2) % (2 ^ 52 - 1) = v at *
  rcases Nat.mod_two_eq_zero_or_one t with h | h <;> rw [h] <;> constructor <;> omega

theorem sub_run (a d : Nat) (w : World) : ∃ r w', Out a d r ∧ r < 18446744073709551616 ∧ (∀ t, (binOp .sub t (.float .f64 a) (.float .f64 d)).run Yba.prog w = .ok (.float .f64 r) w') ∧ Below w.heap.size w w' := by
  cases h : Ieee.double.sub a d with
  | some r => exact ⟨r, w, .inl h, Ieee.Format.sub_lt Ieee.double h, fun t => run_float_arith w .sub t .f64 a d r h, Below.refl _ _⟩
  | none =>
    have h' : FloatKind.f64.format.sub a d = none := h
    refine ⟨(Question.nanBits .f64 a d).cut (w.tape w.drawn (.nanBits .f64 a d)), w.drew, .inr ⟨h, ?_⟩, ?_, fun t => ?_, (Below.refl _ _).drew⟩
    · exact (nan_cut (w.tape w.drawn (.nanBits .f64 a d))).1
    · exact (nan_cut (w.tape w.drawn (.nanBits .f64 a d))).2
    · simp [binOp, Op.floatArith, h']
      intro hf
      cases hf

/-- What both functions answer, of the gap's word g: the one law of the two. -/
def Ap (g d r : Nat) : Prop :=
  ((9218868437227405312 < g % 9223372036854775808 ∨ g = 9218868437227405312) ∧ Out 4841369599423283200 d r) ∨
  (((9223372036854775808 ≤ g ∧ g % 9223372036854775808 ≤ 9218868437227405312) ∨ g ≤ 1) ∧ r = 0) ∨
  ((2 ≤ g ∧ g < 9218868437227405312) ∧ Out (pw (kk g + 52)) d r)

theorem out_same {a d r s : Nat} (h1 : Out a d r) (h2 : Out a d s) : r = s ∨ (9218868437227405312 < r % 9223372036854775808 ∧ 9218868437227405312 < s % 9223372036854775808) := by
  rcases h1 with h1 | ⟨h1, n1⟩ <;> rcases h2 with h2 | ⟨h2, n2⟩
  · left; rw [h1] at h2; exact Option.some.inj h2
  · rw [h1] at h2; cases h2
  · rw [h1] at h2; cases h2
  · exact .inr ⟨n1, n2⟩

theorem ap_same {c d g k r s : Nat} (h1 : Out d c g) (h2 : Out d c k) (a1 : Ap g d r) (a2 : Ap k d s) : r = s ∨ (9218868437227405312 < r % 9223372036854775808 ∧ 9218868437227405312 < s % 9223372036854775808) := by
  rcases out_same h1 h2 with e | ⟨n1, n2⟩
  · subst e
    rcases a1 with ⟨x1, o1⟩ | ⟨x1, o1⟩ | ⟨x1, o1⟩
    · rcases a2 with ⟨x2, o2⟩ | ⟨x2, o2⟩ | ⟨x2, o2⟩
      · exact out_same o1 o2
      · exfalso; omega
      · exfalso; omega
    · rcases a2 with ⟨x2, o2⟩ | ⟨x2, o2⟩ | ⟨x2, o2⟩
      · exfalso; omega
      · left; rw [o1, o2]
      · exfalso; omega
    · rcases a2 with ⟨x2, o2⟩ | ⟨x2, o2⟩ | ⟨x2, o2⟩
      · exfalso; omega
      · exfalso; omega
      · exact out_same o1 o2
  · rcases a1 with ⟨x1, o1⟩ | ⟨x1, o1⟩ | ⟨x1, o1⟩
    · rcases a2 with ⟨x2, o2⟩ | ⟨x2, o2⟩ | ⟨x2, o2⟩
      · exact out_same o1 o2
      · exfalso; omega
      · exfalso; omega
    · exfalso; omega
    · exfalso; omega

/-- Every word is of one of the three kinds. -/
theorem kinds (g : Nat) (h : g < 18446744073709551616) : (9218868437227405312 < g % 9223372036854775808 ∨ g = 9218868437227405312) ∨ ((9223372036854775808 ≤ g ∧ g % 9223372036854775808 ≤ 9218868437227405312) ∨ g ≤ 1) ∨ (2 ≤ g ∧ g < 9218868437227405312) := by omega
end Go.Proofs.Ybulkctfm
