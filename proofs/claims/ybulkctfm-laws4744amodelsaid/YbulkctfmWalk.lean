/-
  THE WALKS OF LawS4744AModel: apart (function 5), the model (function 7, its loop over the powers of two), the law (function 3): every two words.
-/
import Derived.Test.YbulkctfmParts
namespace Go.Proofs.Ybulkctfm
open Go.RowKit
open Dbl
set_option linter.unusedVariables false
theorem pw52 : pw 1126 = 4841369599423283200 := by decide +kernel
theorem ldexp_52 (w : World) : Calls Yba.prog 13 #[.float .f64 4607182418800017408, .int .i64 52] w fun e w' => e = .returned (.float .f64 4841369599423283200) ∧ w' = w := by
  have h := ldexp_one 52 (by omega) (by omega) w
  rw [show ((52 : Int) + 1074).toNat = 1126 from rfl, pw52] at h
  exact h

/-- how a word of the first kind stands to the constants -/
theorem out_ords {g : Nat} (h : 9218868437227405312 < g % 9223372036854775808 ∨ g = 9218868437227405312) (x : Nat) (hx : x < 9218868437227405312) :
    (FloatKind.f64.format.order g x == some Ordering.lt) = false ∧ (FloatKind.f64.format.order g x == some Ordering.eq) = false := by
  rw [fmt64]
  rcases h with h | h
  · rw [order_nan_left h]; exact ⟨rfl, rfl⟩
  · rw [h, order_gt hx (by omega)]; exact ⟨rfl, rfl⟩
/-- .. of the second kind -/
theorem low_ords {g : Nat} (h64 : g < 18446744073709551616) (h : (9223372036854775808 ≤ g ∧ g % 9223372036854775808 ≤ 9218868437227405312) ∨ g ≤ 1) :
    (FloatKind.f64.format.order g 1 == some Ordering.lt || FloatKind.f64.format.order g 1 == some Ordering.eq) = true ∧ (FloatKind.f64.format.order g g != some Ordering.eq) = false ∧ (FloatKind.f64.format.order g 9218868437227405311 == some Ordering.gt) = false := by
  rw [fmt64]
  rcases h with ⟨h1, h2⟩ | h
  · rw [order_neg h1 h64 h2 (by omega) (by omega), order_neg_self h1 h64 h2, order_neg h1 h64 h2 (by omega) (by omega)]; exact ⟨rfl, rfl, rfl⟩
  · rw [order_self (a := g) (by omega), order_lt (a := g) (b := 9218868437227405311) (by omega) (by omega)]
    refine ⟨?_, rfl, rfl⟩
    rcases (show g = 0 ∨ g = 1 by omega) with rfl | rfl
    · rw [order_lt (by omega) (by omega)]; rfl
    · rw [order_self (by omega)]; rfl
/-- .. of the third kind -/
theorem mid_ords {g : Nat} (h : 2 ≤ g ∧ g < 9218868437227405312) :
    (FloatKind.f64.format.order g 1 == some Ordering.lt) = false ∧ (FloatKind.f64.format.order g 1 == some Ordering.eq) = false ∧ (FloatKind.f64.format.order g g != some Ordering.eq) = false ∧ (FloatKind.f64.format.order g 9218868437227405311 == some Ordering.gt) = false := by
  rw [fmt64]
  rw [order_gt (a := g) (b := 1) (by omega) (by omega), order_self (a := g) (by omega)]
  refine ⟨rfl, rfl, rfl, ?_⟩
  rcases (show g < 9218868437227405311 ∨ g = 9218868437227405311 by omega) with h1 | rfl
  · rw [order_lt h1 (by omega)]; rfl
  · rw [order_self (by omega)]; rfl

set_option maxHeartbeats 1000000 in
theorem apart_any (c d : Nat) (w : World) :
    Calls Yba.prog 5 #[.float .f64 c, .float .f64 d] w fun e w' => ∃ g r, e = .returned (.float .f64 r) ∧ Out d c g ∧ Ap g d r ∧ Below w.heap.size w w' := by
  obtain ⟨g, w1, ho, hg, hrun, hb⟩ := sub_run d c w
  have HO : Hid (Out d c g) := ho
  have HB : Hid (Below w.heap.size w w1) := hb
  clear ho hb
  rcases kinds g hg with hk | hk | hk
  · obtain ⟨k1, k2⟩ := out_ords hk 1 (by omega)
    obtain ⟨k3, k4⟩ := out_ords hk 4602678819172646912 (by omega)
    obtain ⟨r, w2, ho2, _, hrun2, hb2⟩ := sub_run 4841369599423283200 d w1
    have HO2 : Hid (Out 4841369599423283200 d r) := ho2
    have HB2 : Hid (Below w1.heap.size w1 w2) := hb2
    have HK : Hid (9218868437227405312 < g % 9223372036854775808 ∨ g = 9218868437227405312) := hk
    clear ho2 hb2 hk k3
    go_enter Yba.func5, Yba.ntmps5
    go_wp2_with (first
      | (go_at_call 12; refine (frexp_out g hg HK.out _).mono ?_; rintro e w' ⟨rfl, rfl⟩)
      | (go_at_call 13; refine (ldexp_52 _).mono ?_; rintro e w' ⟨rfl, rfl⟩))
    go_ret
    exact ⟨g, r, rfl, HO.out, .inl ⟨HK.out, HO2.out⟩, HB.out.trans (HB2.out.mono HB.out.size)⟩
  · obtain ⟨k1, k2, k3⟩ := low_ords hg hk
    have HK : Hid ((9223372036854775808 ≤ g ∧ g % 9223372036854775808 ≤ 9218868437227405312) ∨ g ≤ 1) := hk
    clear hk k2 k3
    go_enter Yba.func5, Yba.ntmps5
    go_wp2
    go_ret
    exact ⟨g, 0, rfl, HO.out, .inr (.inl ⟨HK.out, rfl⟩), HB.out⟩
  · obtain ⟨k1, k2, _, _⟩ := mid_ords hk
    obtain ⟨p1, p2, p3⟩ := norm_parts (g := g) (by omega) hk.2
    have q1 := kk_pos hk.1
    have q2 := kk_le (g := g) (by omega) hk.2
    have hfr : ∃ ex : Int, (ex = 0 ∨ ex = -52) ∧ ex = (if g < 4503599627370496 then -52 else 0) ∧ ∀ w, Calls Yba.prog 35 #[.float .f64 g] w fun e w' => e = .returned (.tuple #[.float .f64 (norm g), .int .i64 ex]) ∧ w' = w := by
      by_cases hs : g < 4503599627370496
      · exact ⟨-52, .inr rfl, by rw [if_pos hs], fun w => norm_small g (by omega) hs w⟩
      · refine ⟨0, .inl rfl, by rw [if_neg hs], fun w => ?_⟩
        have hn : norm g = g := by unfold norm; rw [if_neg hs]
        rw [hn]
        exact norm_big g (by omega) (by omega) w
    obtain ⟨ex, hex, hex2, hc⟩ := hfr
    have hF := frexp_tail g (norm g) ex hex (by omega) hk.2 p1 p2 hc
    obtain ⟨fr, hfr⟩ : ∃ fr, fr = norm g % 4503599627370496 + 4602678819172646912 := ⟨_, rfl⟩
    obtain ⟨E, hE⟩ : ∃ E : Int, E = ex + ((norm g / 4503599627370496 : Nat) : Int) - 1022 := ⟨_, rfl⟩
    rw [← hfr, ← hE] at hF
    have HF : Hid (∀ w, Calls Yba.prog 12 #[.float .f64 g] w fun e w' => e = .returned (.tuple #[.float .f64 fr, .int .i64 E]) ∧ w' = w) := hF
    have HK : Hid (2 ≤ g ∧ g < 9218868437227405312) := hk
    obtain ⟨X, hX⟩ : ∃ X, X = pw (kk g + 52) := ⟨_, rfl⟩
    obtain ⟨r, w2, ho2, _, hrun2, hb2⟩ := sub_run X d w1
    rw [hX] at ho2
    have HO2 : Hid (Out (pw (kk g + 52)) d r) := ho2
    have HB2 : Hid (Below w1.heap.size w1 w2) := hb2
    clear ho2 hb2
    by_cases hz : norm g % 4503599627370496 = 0
    · have hE2 : E = (kk g : Int) - 1073 := by
        rw [if_pos hz] at p3
        by_cases hs : g < 4503599627370496
        · rw [if_pos hs] at p3 hex2; omega
        · rw [if_neg hs] at p3 hex2; omega
      have hfe : (FloatKind.f64.format.order fr 4602678819172646912 == some Ordering.eq) = true := by
        rw [fmt64, hfr, hz, Nat.zero_add, order_self (by omega)]; rfl
      have b1 : -1072 ≤ E := by omega
      have b2 : E ≤ 1025 := by omega
      have HL : Hid (∀ w, Calls Yba.prog 13 #[.float .f64 4607182418800017408, .int .i64 (E + 52 - 1)] w fun e w' => e = .returned (.float .f64 X) ∧ w' = w) := fun w => by
        have := ldexp_one (E + 52 - 1) (by omega) (by omega) w
        rw [show (E + 52 - 1 + 1074).toNat = kk g + 52 by omega, ← hX] at this
        exact this
      clear hF hc hex hex2 hfr hE hE2 hz p1 p2 p3 q1 q2 hk hX
      go_enter Yba.func5, Yba.ntmps5
      go_wp2_with (first
        | (go_at_call 12; refine (HF.out _).mono ?_; rintro e w' ⟨rfl, rfl⟩)
        | (go_at_call 13; refine (HL.out _).mono ?_; rintro e w' ⟨rfl, rfl⟩))
      go_ret
      exact ⟨g, r, rfl, HO.out, .inr (.inr ⟨HK.out, HO2.out⟩), HB.out.trans (HB2.out.mono HB.out.size)⟩
    · have hE2 : E = (kk g : Int) - 1074 := by
        rw [if_neg hz] at p3
        by_cases hs : g < 4503599627370496
        · rw [if_pos hs] at p3 hex2; omega
        · rw [if_neg hs] at p3 hex2; omega
      have hfe : (FloatKind.f64.format.order fr 4602678819172646912 == some Ordering.eq) = false := by
        rw [fmt64, hfr, order_gt (by omega) (by omega)]; rfl
      have b1 : -1073 ≤ E := by omega
      have b2 : E ≤ 1024 := by omega
      have HL : Hid (∀ w, Calls Yba.prog 13 #[.float .f64 4607182418800017408, .int .i64 (E + 52)] w fun e w' => e = .returned (.float .f64 X) ∧ w' = w) := fun w => by
        have := ldexp_one (E + 52) (by omega) (by omega) w
        rw [show (E + 52 + 1074).toNat = kk g + 52 by omega, ← hX] at this
        exact this
      clear hF hc hex hex2 hfr hE hE2 hz p1 p2 p3 q1 q2 hk hX
      go_enter Yba.func5, Yba.ntmps5
      go_wp2_with (first
        | (go_at_call 12; refine (HF.out _).mono ?_; rintro e w' ⟨rfl, rfl⟩)
        | (go_at_call 13; refine (HL.out _).mono ?_; rintro e w' ⟨rfl, rfl⟩))
      go_ret
      exact ⟨g, r, rfl, HO.out, .inr (.inr ⟨HK.out, HO2.out⟩), HB.out.trans (HB2.out.mono HB.out.size)⟩

def fbits : Value → Nat
  | .float _ b => b
  | _ => 0

theorem mul_pw52 {k : Nat} (h : k ≤ 2098) : Ieee.double.mul (pw k) 4841369599423283200 = some (pw (k + 52)) := by
  rcases (show k < 2098 ∨ k = 2098 by omega) with h1 | rfl
  · exact mul_p52 h1
  · rw [pw_inf (k := 2098) (by omega), pw_inf (k := 2098 + 52) (by omega)]; exact mul_p52_inf

set_option maxHeartbeats 1000000 in
theorem model_any (c d : Nat) (w : World) :
    Calls Yba.prog 7 #[.float .f64 c, .float .f64 d] w fun e w' => ∃ g r, e = .returned (.float .f64 r) ∧ Out d c g ∧ Ap g d r ∧ Below w.heap.size w w' := by
  obtain ⟨g, w1, ho, hg, hrun, hb⟩ := sub_run d c w
  have HO : Hid (Out d c g) := ho
  have HB : Hid (Below w.heap.size w w1) := hb
  clear ho hb
  rcases kinds g hg with hk | hk | hk
  · have hor : (FloatKind.f64.format.order g g != some Ordering.eq) = true ∨ ((FloatKind.f64.format.order g g != some Ordering.eq) = false ∧ (FloatKind.f64.format.order g 9218868437227405311 == some Ordering.gt) = true) := by
      rw [fmt64]
      rcases hk with h | h
      · left; rw [order_nan_left h]; rfl
      · right; rw [h, order_self (by omega), order_gt (by omega) (by omega)]; exact ⟨rfl, rfl⟩
    obtain ⟨r, w2, ho2, _, hrun2, hb2⟩ := sub_run 4841369599423283200 d w1
    have HO2 : Hid (Out 4841369599423283200 d r) := ho2
    have HB2 : Hid (Below w1.heap.size w1 w2) := hb2
    have HK : Hid (9218868437227405312 < g % 9223372036854775808 ∨ g = 9218868437227405312) := hk
    clear ho2 hb2 hk
    rcases hor with k1 | ⟨k1, k2⟩
    · go_enter Yba.func7, Yba.ntmps7
      go_wp2
      go_ret
      exact ⟨g, r, rfl, HO.out, .inl ⟨HK.out, HO2.out⟩, HB.out.trans (HB2.out.mono HB.out.size)⟩
    · go_enter Yba.func7, Yba.ntmps7
      go_wp2
      go_ret
      exact ⟨g, r, rfl, HO.out, .inl ⟨HK.out, HO2.out⟩, HB.out.trans (HB2.out.mono HB.out.size)⟩
  · obtain ⟨k1, k2, k3⟩ := low_ords hg hk
    have HK : Hid ((9223372036854775808 ≤ g ∧ g % 9223372036854775808 ≤ 9218868437227405312) ∨ g ≤ 1) := hk
    clear hk
    go_enter Yba.func7, Yba.ntmps7
    go_wp2
    go_ret
    exact ⟨g, 0, rfl, HO.out, .inr (.inl ⟨HK.out, rfl⟩), HB.out⟩
  · obtain ⟨k1, k2, k3, k4⟩ := mid_ords hk
    have q2 := kk_le (g := g) (by omega) hk.2
    obtain ⟨K, hK⟩ : ∃ K, K = kk g := ⟨_, rfl⟩
    obtain ⟨r, w2, ho2, _, hrun2, hb2⟩ := sub_run (pw (K + 52)) d w1
    have HO2 : Hid (Out (pw (kk g + 52)) d r) := by rw [hK] at ho2; exact ho2
    have HB2 : Hid (Below w1.heap.size w1 w2) := hb2
    have HK : Hid (2 ≤ g ∧ g < 9218868437227405312) := hk
    have HKK : Hid (K = kk g) := hK
    rw [← hK] at q2
    have hm52 : ∀ t w, (binOp .mul t (.float .f64 (pw K)) (.float .f64 4841369599423283200)).run Yba.prog w = .ok (.float .f64 (pw (K + 52))) w := fun t w => run_float_arith w .mul t .f64 _ _ _ (mul_pw52 q2)
    clear ho2 hb2 hk hK
    have p0 : pw 0 = 1 := rfl
    have P0 : Hid (pw 0 = 1) := p0
    clear p0
    go_enter Yba.func7, Yba.ntmps7
    go_wp2
    go_loop [6] (fun sp => ∃ k : Nat, k ≤ K ∧ sp = .float .f64 (pw k)) (fun sp => pw K - fbits sp)
    case atStart => exact ⟨0, Nat.zero_le _, by rw [P0.out]⟩
    case round =>
      obtain ⟨k, hkk, rfl⟩ := hrel
      by_cases hlt : k < K
      · have ht : (FloatKind.f64.format.order (pw k) g == some Ordering.lt) = true := by
          rw [fmt64, order_lt (kk_lt (by have := HK.out; omega) HK.out.2 (by rw [← HKK.out]; exact hlt)) (by have := HK.out; omega)]; rfl
        have hm2 : ∀ t w, (binOp .mul t (.float .f64 (pw k)) (.float .f64 4611686018427387904)).run Yba.prog w = .ok (.float .f64 (pw (k + 1))) w := fun t w => run_float_arith w .mul t .f64 _ _ _ (mul_two (by omega))
        have hl1 : Hid (pw k < pw (k + 1)) := pw_mono (by omega) (by omega)
        have hl2 : Hid (pw (k + 1) ≤ pw K) := by
          rcases (show k + 1 < K ∨ k + 1 = K by omega) with h1 | h1
          · exact Nat.le_of_lt (pw_mono h1 q2)
          · rw [h1]; exact Nat.le_refl _
        go_wp2
        go_round
        case rel => exact ⟨k + 1, by omega, rfl⟩
        case measure =>
          have a1 := hl1.out
          have a2 := hl2.out
          simp only [fbits]; omega
      · obtain rfl : K = k := by omega
        have ht : (FloatKind.f64.format.order (pw K) g == some Ordering.lt) = false := by
          have h1 := kk_ge (g := g) (by have := HK.out; omega) HK.out.2
          rw [← HKK.out] at h1
          rw [fmt64]
          rcases (show g < pw K ∨ g = pw K by omega) with h2 | h2
          · rw [order_gt h2 (pw_le K)]; rfl
          · rw [h2, order_self (pw_le K)]; rfl
        go_wp2
        go_ret
        exact ⟨g, r, rfl, HO.out, .inr (.inr ⟨HK.out, HO2.out⟩), HB.out.trans (HB2.out.mono HB.out.size)⟩

set_option maxHeartbeats 1000000 in
theorem law_any (c d : Nat) (w : World) :
    Calls Yba.prog 3 #[.float .f64 c, .float .f64 d] w fun e w' => e = .returned (.bool true) ∧ Below w.heap.size w w' := by
  go_enter Yba.func3, Yba.ntmps3
  go_wp2_with fail
  refine (apart_any c d _).mono ?_
  rintro e w1 ⟨g1, r1, rfl, o1, a1, b1⟩
  have O1 : Hid (Out d c g1) := o1
  have A1 : Hid (Ap g1 d r1) := a1
  have B1 : Hid (Below w.heap.size w w1) := b1
  clear o1 a1 b1
  go_wp2_with fail
  refine (model_any c d _).mono ?_
  rintro e w2 ⟨g2, r2, rfl, o2, a2, b2⟩
  have E : Hid (r1 = r2 ∨ (9218868437227405312 < r1 % 9223372036854775808 ∧ 9218868437227405312 < r2 % 9223372036854775808)) := ap_same O1.out o2 A1.out a2
  have B2 : Hid (Below w1.heap.size w1 w2) := b2
  clear o2 a2 b2
  go_wp2_with fail
  refine (aeq_any r1 r2 E.out _).mono ?_
  rintro e w3 ⟨rfl, rfl⟩
  go_wp2
  go_ret
  exact ⟨rfl, B1.out.trans (B2.out.mono B1.out.size)⟩
end Go.Proofs.Ybulkctfm
