/-
  A PROOF OF 'Rows.LawS4728BOtherMethodSaid' ('inkstruct.LawS4728BOtherMethod') (the frame written by program (proof-skeleton.mjs, third state) off the guide's own print for that function; the walk is the prover's).
-/
import Derived.Test.YbulkcswwRows
import Derived.Test.YbulkcswwParts
import Derived.WalkKit
import Derived.ProofKit
import Derived.OpenShut
import Derived.ShutString
import Derived.ChangeOld
import Derived.Below
namespace Go.Proofs.Ybulkcsww.lawS4728BOtherMethod
open Go.ChangeShapes Go.WideShapes Go.ChangeAt Go.RowKit
open Go.ChangeMaps (open_string shut_string)
set_option linter.unusedVariables false

theorem own : ownKnob Yba.prog.godebug = none := by kernel_rfl
theorem laidOut : laidOutB Yba.prog = true := by kernel_rfl

/-- WHAT THE WALK IS TOLD OF A SLICE OF INTEGERS THAT CAME IN: it is nil; or it leads to a row of 'cap' cells, the numbers 'zs' (the first 'len' are its elements, the rest its spare room), each fitting its kind. -/
def IsRow (k : IntKind) (w : World) (a : Option Addr) (len cap : Nat) (zs : List Int) : Prop :=
  (a = none ∧ len = 0 ∧ cap = 0 ∧ zs = []) ∨
  ∃ x, a = some x ∧ len ≤ cap ∧ cap ≤ maxLen ∧ zs.length = cap ∧ (∀ i, i < zs.length → w.cell? (x.add i) = some (.int k (zs.getD i 0))) ∧ ∀ n ∈ zs, (Lit.int k n).wf = true

def Al (p t m : ByteArray) : List UInt8 := sta ++ p.data.toList ++ 46 :: (t.data.toList ++ 46 :: m.data.toList)
theorem sz1 : ({ data := #[118, 97, 108, 117, 101, 32, 109, 101, 116, 104, 111, 100, 32] } : ByteArray).size = 13 := rfl
theorem sz2 : ({ data := #[46] } : ByteArray).size = 1 := rfl
theorem sz3 : ({ data := #[32, 99, 97, 108, 108, 101, 100, 32, 117, 115, 105, 110, 103, 32, 110, 105, 108, 32, 42] } : ByteArray).size = 19 := rfl
theorem sz4 : ({ data := #[32, 112, 111, 105, 110, 116, 101, 114] } : ByteArray).size = 8 := rfl
theorem sz5 : ({ data := #[81] } : ByteArray).size = 1 := rfl
theorem suffix_ok (l r : List UInt8) : Lib.hasSuffix (l ++ r) r = true := List.isSuffixOf_iff_suffix.2 (List.suffix_append l r)

theorem suffix_no (X M r : List UInt8) (hM : ∀ c ∈ M, c ≠ 81) : Lib.hasSuffix (X ++ 46 :: M) (r ++ [81]) = false := by
  rw [Bool.eq_false_iff]
  intro h
  obtain ⟨t, ht⟩ := List.isSuffixOf_iff_suffix.1 h
  have h1 : (t ++ (r ++ [81])).getLast? = some 81 := by rw [← List.append_assoc]; simp
  rw [ht, List.getLast?_append] at h1
  have h2 : (46 :: M).getLast? = some 81 := by
    cases hl : (46 :: M).getLast? with
    | none => simp at hl
    | some c => rw [hl] at h1; simpa using h1
  have h3 := List.mem_of_getLast? h2
  rcases List.mem_cons.1 h3 with h4 | h4
  · revert h4; decide
  · exact hM _ h4 rfl

theorem row_below {w w' : World} {a : Option Addr} {len cap : Nat} {zs : List Int} (h : IsRow .u8 w a len cap zs) (hb : Below w.heap.size w w') : IsRow .u8 w' a len cap zs := by
  rcases h with h | ⟨x, e, h1, h2, h3, h4, h5⟩
  · exact .inl h
  · exact .inr ⟨x, e, h1, h2, h3, fun i hi => (hb.cell (World.block_lt_of_cell? w _ (h4 i hi))).trans (h4 i hi), h5⟩

theorem len_le {w : World} {a : Option Addr} {len cap : Nat} {zs : List Int} (h : IsRow .u8 w a len cap zs) : len ≤ 9223372036854775807 := by
  rcases h with ⟨_, h, _⟩ | ⟨x, _, h1, h2, _⟩
  · omega
  · unfold maxLen at h2; omega


/-! ### STEP 1: THE WALK: the Go text returns true, AND WRITES NOTHING THAT WAS THERE: 'Below w.heap.size w w'' (Derived/Below.lean: '.refl', '.alloc', '.drew', '.setCell' at a new block, '.trans'). Open each 'IsRow' by 'rcases' AHEAD of 'go_enter'; part every test ahead of the walk. -/
set_option maxHeartbeats 1000000 in
theorem walk (a0 : Option Addr) (len0 cap0 : Nat) (z0 : List Int) (a1 : Option Addr) (len1 cap1 : Nat) (z1 : List Int) (a2 : Option Addr) (len2 cap2 : Nat) (z2 : List Int) (w : World) (w0 : IsRow .u8 w a0 len0 cap0 z0) (w1 : IsRow .u8 w a1 len1 cap1 z1) (w2 : IsRow .u8 w a2 len2 cap2 z2) :
    Calls Yba.prog 6 #[.slice a0 len0 cap0, .slice a1 len1 cap1, .slice a2 len2 cap2] w fun e w' => e = .returned (.bool true) ∧ Below w.heap.size w w' := by
  have l0 := len_le w0
  have l1 := len_le w1
  have l2 := len_le w2
  by_cases c0 : (1024 : Int) < len0
  · have b0 : decide ((1024 : Int) < len0) = true := by simpa using c0
    go_enter Yba.func6, Yba.ntmps6
    go_wp2
    go_ret
    exact ⟨rfl, Below.refl _ _⟩
  by_cases c1 : (1024 : Int) < len1
  · have b0 : decide ((1024 : Int) < len1) = true := by simpa using c1
    go_enter Yba.func6, Yba.ntmps6
    go_wp2
    go_ret
    exact ⟨rfl, Below.refl _ _⟩
  by_cases c2 : (1024 : Int) < len2
  · have b0 : decide ((1024 : Int) < len2) = true := by simpa using c2
    go_enter Yba.func6, Yba.ntmps6
    go_wp2
    go_ret
    exact ⟨rfl, Below.refl _ _⟩
  have R0 := hide w0
  have R1 := hide w1
  have R2 := hide w2
  clear w0 w1 w2
  go_enter Yba.func6, Yba.ntmps6
  go_wp2_with fail
  refine (pick_any a0 len0 cap0 z0 _ (by omega) (unhide R0)).mono ?_
  rintro e v1 ⟨⟨P, rfl, hPs, hPp⟩, hb1⟩
  have HSP : P.size ≤ 1024 := by omega
  have HP := hide hPp
  clear hPs hPp
  go_wp2_with fail
  refine (pick_any a1 len1 cap1 z1 _ (by omega) (row_below (unhide R1) hb1)).mono ?_
  rintro e v2 ⟨⟨T, rfl, hTs, hTp⟩, hb2⟩
  have HST : T.size ≤ 1024 := by omega
  have HT := hide hTp
  clear hTs hTp
  have hb12 : Below w.heap.size w v2 := hb1.trans (hb2.mono hb1.size)
  clear hb2
  go_wp2_with fail
  refine (pick_any a2 len2 cap2 z2 _ (by omega) (row_below (unhide R2) hb12)).mono ?_
  rintro e v3 ⟨⟨M, rfl, hMs, hMp⟩, hb3⟩
  have HSM : M.size ≤ 1024 := by omega
  have HM := hide hMp
  clear hMs hMp
  have hb123 : Below w.heap.size w v3 := hb12.trans (hb3.mono hb12.size)
  clear hb3
  go_wp2_with fail
  refine (nil_any _ _ ⟨(Al P T M ++ mid ++ T.data.toList).toArray⟩ ⟨(Al P T M).toArray⟩ T false (P.data.toList ++ 46 :: (T.data.toList ++ 46 :: (M.data.toList ++ mid ++ T.data.toList ++ suf))) v3 ?g1 ?g2 ?g3 ?g4 ?g5 ?g6 ?g7).mono ?_
  case g1 => simp only [ByteArray.size_append, sz1, sz2, sz3, sz4]; omega
  case g2 => simp only [ByteArray.size_append, sz5]; omega
  case g3 => simp [Al, mid, suf, sta]
  case g4 => simp
  case g5 => simp [mid, suf, sta]
  case g6 => exact fun c hc => ((unhide HT) c hc).1
  case g7 =>
    have := suffix_no (sta ++ P.data.toList ++ 46 :: T.data.toList) M.data.toList (46 :: (T.data.toList ++ 46 :: M.data.toList)) (fun c hc => ((unhide HM) c hc).2.2)
    simpa [Al] using this
  rintro e w4 ⟨rfl, hb4⟩
  go_wp2
  go_ret
  exact ⟨rfl, hb123.trans (hb4.mono hb123.size)⟩

/-! ### THE ROW's STEP: WRITTEN OUT: LEAVE IT -/
set_option maxRecDepth 100000 in
theorem lifted (os : Os) (started : os.Started) (H : Type) (enc : TypeId × Value → H) :
    ReturnsInHanded {} Yba.checked os 6 .any (Rows.lawS4728BOtherMethodSpec.pre6 enc Yba.prog Yba.f6 Rows.lawS4728BOtherMethodRow.domain false) (Rows.lawS4728BOtherMethodSpec.post enc Yba.prog Yba.f6 false true false false) := by
  refine returnsInHanded_of_change (C := Yba.checked) own started (by kernel_rfl) Yba.func6
    (ChangeSpec.witness6 (enc := enc) (C := Yba.checked) false ⟨#[], #[.slice none 0 0, .slice none 0 0, .slice none 0 0], []⟩ 8 (by kernel_rfl) (by kernel_rfl) (by kernel_rfl) (by kernel_rfl)) ?_
  intro W base args ds gs before hval0 hW hcnd _
  have hval : ∀ (j : Nat) t v, Yba.f6.params[j]? = some t → args[j]? = some v → Value.okWide Yba.prog W .any base t v := hval0
  have hW' := hW
  obtain ⟨p, q, hA0, hV, rfl, hfz, hnd⟩ := hW
  have hA : DataW.TrodAll enc Yba.prog W 0 (fun _ => true) true Yba.f6.params.toList args.toList ds p := hA0
  rw [Yba.params6] at hA hval
  obtain ⟨v0, vs0, d0, ds0, p0, q0, hargs, rfl, rfl, h0, r0⟩ := trodAll_cons hA
  obtain ⟨v1, vs1, d1, ds1, p1, q1, rfl, rfl, rfl, h1, r1⟩ := trodAll_cons r0
  obtain ⟨v2, vs2, d2, ds2, p2, q2, rfl, rfl, rfl, h2, r2⟩ := trodAll_cons r1
  obtain ⟨rfl, rfl, rfl⟩ := trodAll_nil r2
  obtain rfl : args = #[v0, v1, v2] := by cases args; simp_all
  obtain ⟨rfl, rfl⟩ := trodVars_none hV
  obtain ⟨a0, len0, cap0, rfl⟩ := okWide_slice Yba.underlying23 (hval 0 23 v0 rfl rfl)
  have k0 := h0
  have lt0 : ∀ x ∈ p0, x.block < W.heap.size := by obtain ⟨m, hm⟩ := k0; exact DataW.trod_lt m _ _ _ hm
  obtain ⟨z0, w0⟩ : ∃ zs, IsRow .u8 W a0 len0 cap0 zs := by
    obtain ⟨fuel, hf⟩ := h0
    rcases open_ints Yba.underlying23 Yba.underlying5 (by kernel_rfl) hf with ⟨hcs, _⟩ | ⟨x, l, c, zs, hcs, _, hl, hm, hz, _, hcell, hwz⟩
    · simp [Value.cells] at hcs
      obtain ⟨rfl, rfl, rfl⟩ := hcs
      exact ⟨[], .inl ⟨rfl, rfl, rfl, rfl⟩⟩
    · simp [Value.cells] at hcs
      obtain ⟨rfl, rfl, rfl⟩ := hcs
      exact ⟨zs, .inr ⟨_, rfl, hl, hm, by simpa using hz, hcell, hwz⟩⟩
  obtain ⟨a1, len1, cap1, rfl⟩ := okWide_slice Yba.underlying23 (hval 1 23 v1 rfl rfl)
  have k1 := h1
  have lt1 : ∀ x ∈ p1, x.block < W.heap.size := by obtain ⟨m, hm⟩ := k1; exact DataW.trod_lt m _ _ _ hm
  obtain ⟨z1, w1⟩ : ∃ zs, IsRow .u8 W a1 len1 cap1 zs := by
    obtain ⟨fuel, hf⟩ := h1
    rcases open_ints Yba.underlying23 Yba.underlying5 (by kernel_rfl) hf with ⟨hcs, _⟩ | ⟨x, l, c, zs, hcs, _, hl, hm, hz, _, hcell, hwz⟩
    · simp [Value.cells] at hcs
      obtain ⟨rfl, rfl, rfl⟩ := hcs
      exact ⟨[], .inl ⟨rfl, rfl, rfl, rfl⟩⟩
    · simp [Value.cells] at hcs
      obtain ⟨rfl, rfl, rfl⟩ := hcs
      exact ⟨zs, .inr ⟨_, rfl, hl, hm, by simpa using hz, hcell, hwz⟩⟩
  obtain ⟨a2, len2, cap2, rfl⟩ := okWide_slice Yba.underlying23 (hval 2 23 v2 rfl rfl)
  have k2 := h2
  have lt2 : ∀ x ∈ p2, x.block < W.heap.size := by obtain ⟨m, hm⟩ := k2; exact DataW.trod_lt m _ _ _ hm
  obtain ⟨z2, w2⟩ : ∃ zs, IsRow .u8 W a2 len2 cap2 zs := by
    obtain ⟨fuel, hf⟩ := h2
    rcases open_ints Yba.underlying23 Yba.underlying5 (by kernel_rfl) hf with ⟨hcs, _⟩ | ⟨x, l, c, zs, hcs, _, hl, hm, hz, _, hcell, hwz⟩
    · simp [Value.cells] at hcs
      obtain ⟨rfl, rfl, rfl⟩ := hcs
      exact ⟨[], .inl ⟨rfl, rfl, rfl, rfl⟩⟩
    · simp [Value.cells] at hcs
      obtain ⟨rfl, rfl, rfl⟩ := hcs
      exact ⟨zs, .inr ⟨_, rfl, hl, hm, by simpa using hz, hcell, hwz⟩⟩
  clear hA0 hval0
  refine (walk a0 len0 cap0 z0 a1 len1 cap1 z1 a2 len2 cap2 z2 W w0 w1 w2).mono fun e W' ⟨he, bel⟩ => ?_
  subst he
  exact ⟨_, rfl, _, _, _, [], _, [], hW', trodAll_mk1 (shut_bool Yba.underlying4 _), (trodAll_cons_mk (Below.trod laidOut (by kernel_rfl) (of_decide_eq_true (by kernel_rfl)) k0 bel lt0) (trodAll_cons_mk (Below.trod laidOut (by kernel_rfl) (of_decide_eq_true (by kernel_rfl)) k1 bel lt1) (trodAll_cons_mk (Below.trod laidOut (by kernel_rfl) (of_decide_eq_true (by kernel_rfl)) k2 bel lt2) trodAll_mk0))), rfl, bel.frame _, fun h => by cases h⟩

theorem over : Rows.lawS4728BOtherMethodRow.holds Yba.pinned (OpenSpec.ofChange Rows.lawS4728BOtherMethodSpec) :=
  OpenClaim.holds_of_wide 6 Yba.f6 rfl rfl rfl rfl rfl rfl rfl ⟨rfl, rfl, rfl, rfl, rfl⟩ rfl rfl rfl rfl rfl (by kernel_rfl) Yba.func6 (by kernel_rfl)
    (of_decide_eq_true (by kernel_rfl)) (by unfold Func.isWrapper; first | (rw [if_pos (by decide +kernel)]; kernel_rfl) | (rw [if_neg (by decide +kernel)]; exact ⟨rfl, rfl⟩))
    (fun os started H enc _ => lifted os started H enc)

/-- ████ THE STATEMENT ████ -/
theorem proved : Rows.LawS4728BOtherMethodSaid := over
end Go.Proofs.Ybulkcsww.lawS4728BOtherMethod
