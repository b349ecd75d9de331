/-
  A PROOF OF 'Rows.LawS4728BWellFormedSaid' ('inkstruct.LawS4728BWellFormed') (the frame written by program (proof-skeleton.mjs, third state) off the guide's own print for that function; the walk is the prover's).
-/
import Derived.Test.YbulkcswwRows
import Derived.Test.YbulkcswwParts
import Derived.WalkKit
import Derived.ProofKit
import Derived.OpenShut
import Derived.ShutString
import Derived.ChangeOld
import Derived.Below
namespace Go.Proofs.Ybulkcsww.lawS4728BWellFormed
open Go.ChangeShapes Go.WideShapes Go.ChangeAt Go.RowKit
open Go.ChangeMaps (open_string shut_string)
set_option linter.unusedVariables false

theorem own : ownKnob Yba.prog.godebug = none := by kernel_rfl
theorem laidOut : laidOutB Yba.prog = true := by kernel_rfl

/-- WHAT THE WALK IS TOLD OF A SLICE OF INTEGERS THAT CAME IN: it is nil; or it leads to a row of 'cap' cells, the numbers 'zs' (the first 'len' are its elements, the rest its spare room), each fitting its kind. -/
def IsRow (k : IntKind) (w : World) (a : Option Addr) (len cap : Nat) (zs : List Int) : Prop :=
  (a = none ∧ len = 0 ∧ cap = 0 ∧ zs = []) ∨
  ∃ x, a = some x ∧ len ≤ cap ∧ cap ≤ maxLen ∧ zs.length = cap ∧ (∀ i, i < zs.length → w.cell? (x.add i) = some (.int k (zs.getD i 0))) ∧ ∀ n ∈ zs, (Lit.int k n).wf = true

def Al (p t m : ByteArray) : List UInt8 := sta ++ p.data.toList ++ 46 :: (t.data.toList ++ 46 :: m.data.toList)
theorem sz1 : ({ data := #[118, 97, 108, 117, 101, 32, 109, 101, 116, 104, 111, 100, 32] } : ByteArray).size = 13 := rfl
theorem sz2 : ({ data := #[46] } : ByteArray).size = 1 := rfl
theorem sz3 : ({ data := #[32, 99, 97, 108, 108, 101, 100, 32, 117, 115, 105, 110, 103, 32, 110, 105, 108, 32, 42] } : ByteArray).size = 19 := rfl
theorem sz4 : ({ data := #[32, 112, 111, 105, 110, 116, 101, 114] } : ByteArray).size = 8 := rfl
theorem suffix_ok (l r : List UInt8) : Lib.hasSuffix (l ++ r) r = true := List.isSuffixOf_iff_suffix.2 (List.suffix_append l r)

/-! ### STEP 1: THE WALK: the Go text returns true, AND WRITES NOTHING THAT WAS THERE: 'Below w.heap.size w w'' (Derived/Below.lean: '.refl', '.alloc', '.drew', '.setCell' at a new block, '.trans'). Open each 'IsRow' by 'rcases' AHEAD of 'go_enter'; part every test ahead of the walk. -/
set_option maxHeartbeats 1000000 in
theorem walk (a0 : ByteArray) (a1 : Option Addr) (len1 cap1 : Nat) (z1 : List Int) (a2 : ByteArray) (w : World) (w0 : a0.size ≤ maxLen) (w1 : IsRow .u8 w a1 len1 cap1 z1) (w2 : a2.size ≤ maxLen) :
    Calls Yba.prog 5 #[.string a0, .slice a1 len1 cap1, .string a2] w fun e w' => e = .returned (.bool true) ∧ Below w.heap.size w w' := by
  unfold maxLen at w0 w2
  have hlen : len1 ≤ 9223372036854775807 := by
    rcases w1 with ⟨_, h, _⟩ | ⟨x, _, h1, h2, _⟩
    · omega
    · unfold maxLen at h2; omega
  by_cases c0 : (1024 : Int) < a0.size
  · have b0 : decide ((1024 : Int) < a0.size) = true := by simpa using c0
    go_enter Yba.func5, Yba.ntmps5
    go_wp2
    go_ret
    exact ⟨rfl, Below.refl _ _⟩
  by_cases c1 : (1024 : Int) < len1
  · have b0 : decide ((1024 : Int) < len1) = true := by simpa using c1
    go_enter Yba.func5, Yba.ntmps5
    go_wp2
    go_ret
    exact ⟨rfl, Below.refl _ _⟩
  by_cases c2 : (1024 : Int) < a2.size
  · have b0 : decide ((1024 : Int) < a2.size) = true := by simpa using c2
    go_enter Yba.func5, Yba.ntmps5
    go_wp2
    go_ret
    exact ⟨rfl, Below.refl _ _⟩
  have HP := pick_any a1 len1 cap1 z1 w (by omega) w1
  go_enter Yba.func5, Yba.ntmps5
  go_wp2_with fail
  refine HP.mono ?_
  rintro e w1 ⟨⟨T, rfl, hTs, hTp⟩, hb⟩
  have HT := hide hTp
  have HS := hide hTs
  have HSz : T.size ≤ 1024 := by omega
  clear hTp hTs HP
  go_wp2_with fail
  refine (nil_any _ a2 ⟨(Al a0 T a2 ++ mid ++ T.data.toList).toArray⟩ ⟨(Al a0 T a2).toArray⟩ T true (a0.data.toList ++ 46 :: (T.data.toList ++ 46 :: (a2.data.toList ++ mid ++ T.data.toList ++ suf))) w1 ?g1 ?g2 ?g3 ?g4 ?g5 ?g6 ?g7).mono ?_
  case g1 => simp only [ByteArray.size_append, sz1, sz2, sz3, sz4]; omega
  case g2 => omega
  case g3 => simp [Al, mid, suf, sta]
  case g4 => simp
  case g5 => simp [mid, suf, sta]
  case g6 => exact fun c hc => ((unhide HT) c hc).1
  case g7 => exact suffix_ok _ _
  rintro e w2 ⟨rfl, hb2⟩
  go_wp2
  go_ret
  exact ⟨rfl, hb.trans (hb2.mono hb.size)⟩

/-! ### THE ROW's STEP: WRITTEN OUT: LEAVE IT -/
set_option maxRecDepth 100000 in
theorem lifted (os : Os) (started : os.Started) (H : Type) (enc : TypeId × Value → H) :
    ReturnsInHanded {} Yba.checked os 5 .any (Rows.lawS4728BWellFormedSpec.pre6 enc Yba.prog Yba.f5 Rows.lawS4728BWellFormedRow.domain false) (Rows.lawS4728BWellFormedSpec.post enc Yba.prog Yba.f5 false true false false) := by
  refine returnsInHanded_of_change (C := Yba.checked) own started (by kernel_rfl) Yba.func5
    (ChangeSpec.witness6 (enc := enc) (C := Yba.checked) false ⟨#[], #[.string ByteArray.empty, .slice none 0 0, .string ByteArray.empty], []⟩ 8 (by kernel_rfl) (by kernel_rfl) (by kernel_rfl) (by kernel_rfl)) ?_
  intro W base args ds gs before hval0 hW hcnd _
  have hval : ∀ (j : Nat) t v, Yba.f5.params[j]? = some t → args[j]? = some v → Value.okWide Yba.prog W .any base t v := hval0
  have hW' := hW
  obtain ⟨p, q, hA0, hV, rfl, hfz, hnd⟩ := hW
  have hA : DataW.TrodAll enc Yba.prog W 0 (fun _ => true) true Yba.f5.params.toList args.toList ds p := hA0
  rw [Yba.params5] at hA hval
  obtain ⟨v0, vs0, d0, ds0, p0, q0, hargs, rfl, rfl, h0, r0⟩ := trodAll_cons hA
  obtain ⟨v1, vs1, d1, ds1, p1, q1, rfl, rfl, rfl, h1, r1⟩ := trodAll_cons r0
  obtain ⟨v2, vs2, d2, ds2, p2, q2, rfl, rfl, rfl, h2, r2⟩ := trodAll_cons r1
  obtain ⟨rfl, rfl, rfl⟩ := trodAll_nil r2
  obtain rfl : args = #[v0, v1, v2] := by cases args; simp_all
  obtain ⟨rfl, rfl⟩ := trodVars_none hV
  obtain ⟨a0, rfl, rfl, rfl, w0⟩ := open_string Yba.underlying9 (hval 0 9 v0 rfl rfl) h0
  obtain ⟨a1, len1, cap1, rfl⟩ := okWide_slice Yba.underlying23 (hval 1 23 v1 rfl rfl)
  have k1 := h1
  have lt1 : ∀ x ∈ p1, x.block < W.heap.size := by obtain ⟨m, hm⟩ := k1; exact DataW.trod_lt m _ _ _ hm
  obtain ⟨z1, w1⟩ : ∃ zs, IsRow .u8 W a1 len1 cap1 zs := by
    obtain ⟨fuel, hf⟩ := h1
    rcases open_ints Yba.underlying23 Yba.underlying5 (by kernel_rfl) hf with ⟨hcs, _⟩ | ⟨x, l, c, zs, hcs, _, hl, hm, hz, _, hcell, hwz⟩
    · simp [Value.cells] at hcs
      obtain ⟨rfl, rfl, rfl⟩ := hcs
      exact ⟨[], .inl ⟨rfl, rfl, rfl, rfl⟩⟩
    · simp [Value.cells] at hcs
      obtain ⟨rfl, rfl, rfl⟩ := hcs
      exact ⟨zs, .inr ⟨_, rfl, hl, hm, by simpa using hz, hcell, hwz⟩⟩
  obtain ⟨a2, rfl, rfl, rfl, w2⟩ := open_string Yba.underlying9 (hval 2 9 v2 rfl rfl) h2
  clear hA0 hval0
  refine (walk a0 a1 len1 cap1 z1 a2 W w0 w1 w2).mono fun e W' ⟨he, bel⟩ => ?_
  subst he
  exact ⟨_, rfl, _, _, _, [], _, [], hW', trodAll_mk1 (shut_bool Yba.underlying4 _), (trodAll_cons_mk (shut_string Yba.underlying9 w0) (trodAll_cons_mk (Below.trod laidOut (by kernel_rfl) (of_decide_eq_true (by kernel_rfl)) k1 bel lt1) (trodAll_cons_mk (shut_string Yba.underlying9 w2) trodAll_mk0))), rfl, bel.frame _, fun h => by cases h⟩

theorem over : Rows.lawS4728BWellFormedRow.holds Yba.pinned (OpenSpec.ofChange Rows.lawS4728BWellFormedSpec) :=
  OpenClaim.holds_of_wide 5 Yba.f5 rfl rfl rfl rfl rfl rfl rfl ⟨rfl, rfl, rfl, rfl, rfl⟩ rfl rfl rfl rfl rfl (by kernel_rfl) Yba.func5 (by kernel_rfl)
    (of_decide_eq_true (by kernel_rfl)) (by unfold Func.isWrapper; first | (rw [if_pos (by decide +kernel)]; kernel_rfl) | (rw [if_neg (by decide +kernel)]; exact ⟨rfl, rfl⟩))
    (fun os started H enc _ => lifted os started H enc)

/-- ████ THE STATEMENT ████ -/
theorem proved : Rows.LawS4728BWellFormedSaid := over
end Go.Proofs.Ybulkcsww.lawS4728BWellFormed
