/-
  THE TOLD CARD OF LawS4736AMember: every input. fmt's text is told by the authors' own function (GoSem/Extern/FmtText.lean); the law's answer does not hang on it: the walk holds for every F, and is handed F.told.
-/
import Derived.Test.YbulkctbeFmtCards
import Derived.Test.YbulkctbeFmtWalk
import Derived.ProofKit
import Derived.OpenShut
import Derived.ChangeSlices
import Derived.ChangeSame
import Derived.ChangeMaps5
import Derived.ChangeOld
import Derived.JoinedOf
import Derived.Carry
import Derived.SliceStrings
import Derived.Deep.Matrix
import Derived.Stop.JoinedAt
import Derived.Stop.Texts
import Derived.Stop.JoinedTold
import Derived.SizedLaws
import Derived.SevenToldRow
namespace Go.Proofs.YbulkctbeFmt
open Go.ChangeShapes Go.WideShapes Go.ChangeAt Go.RowKit Go.Kit
open Go.ChangeMaps (open_string shut_string)
open Go.Extern.Stop Go.Stop Go.Extern
open Go.Deep
set_option linter.unusedVariables false

theorem own : ownKnob Ybaf.prog.godebug = none := by kernel_rfl
theorem laidOut : laidOutB Ybaf.pinned.checked.prog = true := by kernel_rfl
theorem stops : Ybaf.pinned.checked.prog.stops = ["fmt.errorf"] := by kernel_rfl
theorem stopKnobs : Ybaf.pinned.checked.prog.stopKnobs = [] := by kernel_rfl
theorem quiet (os : Os) : Stop.quiet Ybaf.pinned.checked.prog os := by
  intro k hk
  rw [stopKnobs] at hk
  cases hk
theorem cells5 : Ybaf.prog.cellsOf 5 = 1 := by kernel_rfl
theorem cells9 : Ybaf.prog.cellsOf 9 = 1 := by kernel_rfl
theorem cells26 : Ybaf.prog.cellsOf 26 = 1 := by kernel_rfl

/-- WHAT THE WALK IS TOLD OF THE KEYS. -/
def IsStrs (w : World) (a : Option Addr) (len cap : Nat) (ss : List ByteArray) : Prop :=
  (a = none ∧ len = 0) ∨ ∃ x, a = some x ∧ len ≤ cap ∧ cap ≤ maxLen ∧ ss.length = cap ∧ (∀ i, i < ss.length → w.cell? (x.add i) = some (.string (ss.getD i ByteArray.empty))) ∧ ∀ s ∈ ss, s.size ≤ maxLen
/-- .. AND OF THE VALUES. -/
def IsRows (w : World) (a : Option Addr) (len cap : Nat) (A : Nat → Option Addr) (L C : Nat → Nat) (Z : Nat → List Int) : Prop :=
  (a = none ∧ len = 0) ∨ ∃ x, a = some x ∧ len ≤ cap ∧ cap ≤ maxLen ∧ ∀ r, r < cap → w.cell? (x.add r) = some (.slice (A r) (L r) (C r)) ∧ L r ≤ C r ∧ C r ≤ maxLen ∧ (Z r).length = C r ∧ (A r = none → C r = 0) ∧
        ∀ a', A r = some a' → ∀ c, c < C r → w.cell? (a'.add c) = some (.int .u8 ((Z r).getD c 0))

theorem row_string {w : World} {A : Option Addr} {L C : Nat} {Z : List Int} (hLC : L ≤ C) (hZ : Z.length = C) (h : ∀ a', A = some a' → ∀ c, c < C → w.cell? (a'.add c) = some (.int .u8 (Z.getD c 0))) :
    ∃ t, ∀ w', Below w.heap.size w w' → (convert 26 9 (.slice A L C)).run Ybaf.prog w' = .ok (.string t) w' := by
  cases A with
  | none => exact ⟨_, fun w' _ => run_convert_bytes_nil w' 26 5 Ybaf.underlying26 Ybaf.underlying5 L C 9 Ybaf.underlying9⟩
  | some a' =>
    rcases Nat.eq_zero_or_pos L with h0 | h0
    · subst h0
      exact ⟨⟨#[]⟩, fun w' _ => run_convert_bytes_back (P := Ybaf.prog) w' 26 9 5 a' C [] Ybaf.underlying26 Ybaf.underlying5 Ybaf.underlying9 (fun j hj => by cases hj)⟩
    · have hc := h a' rfl
      obtain ⟨b, off, rfl, hc'⟩ := ints_at (zs := Z) (k := .u8) (a := a') (w := w) (fun i hi => hc i (by omega)) (by omega)
      refine ⟨strOfNums (Z.take L), fun w' hb => run_convert_bytes_arg w' 26 5 Ybaf.underlying26 Ybaf.underlying5 b off L C (Z.take L) (by simp; omega) (fun i hi => ?_) 9 Ybaf.underlying9⟩
      have e1 : (Z.take L).getD i 0 = Z.getD i 0 := by
        rw [List.getD_eq_getElem?_getD, List.getD_eq_getElem?_getD, List.getElem?_take_of_lt hi]
      rw [e1]
      exact (hb.cell (World.block_lt_of_cell? w _ (hc' i (by omega)))).trans (hc' i (by omega))

/-- An address at which a cell lies bears no spot. -/
theorem plain_at {w : World} {x : Addr} {v : Value} (h : w.cell? (x.add 0) = some v) : ∃ b off, x = ⟨b, off, none⟩ := by
  obtain ⟨b, off, spot⟩ := x
  have hspot : spot = none := by simpa [Addr.add] using World.cell?_spot h
  subst hspot
  exact ⟨b, off, rfl⟩

set_option maxHeartbeats 1000000 in
theorem walk_any (F : Interp) (ak av : Option Addr) (lk ck lv cv : Nat) (ss : List ByteArray) (A : Nat → Option Addr) (L C : Nat → Nat) (Z : Nat → List Int) (nm : ByteArray) (p : Int) (w : World)
    (hF : F.answers w.tape) (hk : IsStrs w ak lk ck ss) (hv : IsRows w av lv cv A L C Z) (hnm : nm.size ≤ maxLen) (hp : 0 ≤ p ∧ p ≤ 255) :
    Calls Ybaf.prog 3 #[.slice ak lk ck, .slice av lv cv, .string nm, .int .u8 p] w fun e w' => e = .returned (.bool true) ∧ Below w.heap.size w w' := by
  have l0 : lk ≤ 9223372036854775807 := by
    rcases hk with ⟨_, h⟩ | ⟨x, _, h1, h2, _⟩
    · omega
    · unfold maxLen at h2; omega
  have l1 : lv ≤ 9223372036854775807 := by
    rcases hv with ⟨_, h⟩ | ⟨x, _, h1, h2, _⟩
    · omega
    · unfold maxLen at h2; omega
  by_cases c0 : (1024 : Int) < lk
  · clear hF hk hv hnm
    have b0 : decide ((1024 : Int) < lk) = true := by simpa using c0
    go_enter Ybaf.func3, Ybaf.ntmps3
    go_wp2
    go_ret
    exact ⟨rfl, Below.refl _ _⟩
  by_cases c1 : (1024 : Int) < lv
  · clear hF hk hv hnm
    have b0 : decide ((1024 : Int) < lv) = true := by simpa using c1
    go_enter Ybaf.func3, Ybaf.ntmps3
    go_wp2
    go_ret
    exact ⟨rfl, Below.refl _ _⟩
  obtain ⟨bk, ok, hak, hkc, hks⟩ : ∃ bk ok, (0 < lk → ak = some ⟨bk, ok, none⟩) ∧ (∀ i, i < lk → w.cell? ⟨bk, ok + i, none⟩ = some (.string (ss.getD i ByteArray.empty))) ∧ ∀ i, i < lk → (ss.getD i ByteArray.empty).size ≤ maxLen := by
    rcases Nat.eq_zero_or_pos lk with h0 | h0
    · exact ⟨0, 0, by omega, by omega, by omega⟩
    · rcases hk with ⟨_, h⟩ | ⟨x, rfl, h1, h2, h3, h4, h5⟩
      · omega
      · obtain ⟨b, off, rfl⟩ := plain_at (h4 0 (by omega))
        refine ⟨b, off, fun _ => rfl, fun i hi => ?_, fun i hi => ?_⟩
        · have := h4 i (by omega)
          rwa [WideShapes.add_plain] at this
        · have hm : ss.getD i ByteArray.empty ∈ ss := by rw [List.getD_eq_getElem?_getD, List.getElem?_eq_getElem (by omega)]; exact List.getElem_mem _
          exact h5 _ hm
  obtain ⟨bv, ov, hav, hvc, hvs⟩ : ∃ bv ov, (0 < lv → av = some ⟨bv, ov, none⟩) ∧ (∀ i, i < lv → w.cell? ⟨bv, ov + i, none⟩ = some (.slice (A i) (L i) (C i))) ∧
      ∀ i, i < lv → ∃ t, ∀ w', Below w.heap.size w w' → (convert 26 9 (.slice (A i) (L i) (C i))).run Ybaf.prog w' = .ok (.string t) w' := by
    rcases Nat.eq_zero_or_pos lv with h0 | h0
    · exact ⟨0, 0, by omega, by omega, by omega⟩
    · rcases hv with ⟨_, h⟩ | ⟨x, rfl, h1, h2, h3⟩
      · omega
      · obtain ⟨b, off, rfl⟩ := plain_at (h3 0 (by omega)).1
        refine ⟨b, off, fun _ => rfl, fun i hi => ?_, fun i hi => ?_⟩
        · have := (h3 i (by omega)).1
          rwa [WideShapes.add_plain] at this
        · obtain ⟨_, g1, _, g2, _, g3⟩ := h3 i (by omega)
          exact row_string g1 g2 g3
  exact walk_main F ak av bk ok lk ck bv ov lv cv (fun i => ss.getD i ByteArray.empty) A L C nm p w hF (by omega) (by omega) hak hav hkc hvc hks hnm hp hvs

set_option maxRecDepth 100000 in
set_option maxHeartbeats 1000000 in
theorem lifted (os : Os) (started : os.Started) (H : Type) (enc : TypeId × Value → H) :
    ReturnsInTold none {} Ybaf.checked os 3 .any Input.okWide ((OpenSpec.ofChange Rows.lawS4736AMemberSpec).preRow enc Ybaf.prog Ybaf.f3 [] false []) (fun F => ((OpenSpec.ofChange Rows.lawS4736AMemberSpec).at F).post enc Ybaf.prog Ybaf.f3 false true false false) (aloneAtReturn Ybaf.prog) nothingAlways := by
  refine returnsInTold_of_row (C := Ybaf.checked) (s := OpenSpec.ofChange Rows.lawS4736AMemberSpec) (by kernel_rfl) own started (by kernel_rfl) Ybaf.func3
    (OpenSpec.witness_stopped (enc := enc) (C := Ybaf.checked) false ⟨#[], #[.slice none 0 0, .slice none 0 0, .string ⟨#[]⟩, .int .u8 0], []⟩ 8 (by kernel_rfl) (by kernel_rfl) (by kernel_rfl) (by kernel_rfl)) ?_
  intro F W base args ds gs before _ hF hval0 hW _ _ hsz _ _
  have hval : ∀ (j : Nat) t v, Ybaf.f3.params[j]? = some t → args[j]? = some v → Value.okWide Ybaf.prog W .any base t v := hval0
  have hW' := hW
  obtain ⟨p, q, hA0, hV, rfl, _, _⟩ := hW
  have hA : DataW.TrodAll enc Ybaf.prog W 0 (fun _ => true) true Ybaf.f3.params.toList args.toList ds p := hA0
  rw [Ybaf.params3] at hA hval
  obtain ⟨v0, vs0, d0, ds0, p0, q0, hargs, rfl, rfl, h0, r0⟩ := trodAll_cons hA
  obtain ⟨v1, vs1, d1, ds1, p1, q1, rfl, rfl, rfl, h1, r1⟩ := trodAll_cons r0
  obtain ⟨v2, vs2, d2, ds2, p2, q2, rfl, rfl, rfl, h2, r2⟩ := trodAll_cons r1
  obtain ⟨v3, vs3, d3, ds3, p3, q3, rfl, rfl, rfl, h3, r3⟩ := trodAll_cons r2
  obtain ⟨rfl, rfl, rfl⟩ := trodAll_nil r3
  obtain rfl : args = #[v0, v1, v2, v3] := by cases args; simp_all
  obtain ⟨rfl, rfl⟩ := trodVars_none hV
  obtain ⟨ak, lk, ck, rfl⟩ := okWide_slice Ybaf.underlying22 (hval 0 22 v0 rfl rfl)
  have k0 := h0
  have lt0 : ∀ x ∈ p0, x.block < W.heap.size := by obtain ⟨m, hm⟩ := k0; exact DataW.trod_lt m _ _ _ hm
  obtain ⟨ss, w0⟩ : ∃ ss, IsStrs W ak lk ck ss := by
    obtain ⟨fuel, hf⟩ := h0
    rcases open_strings Ybaf.underlying22 Ybaf.underlying9 cells9 hf with ⟨hcs, _⟩ | ⟨x, l, c, zs, hcs, _, hl, hm, hz, _, hcell, hwz⟩
    · simp [Value.cells] at hcs
      obtain ⟨rfl, rfl, rfl⟩ := hcs
      exact ⟨[], .inl ⟨rfl, rfl⟩⟩
    · simp [Value.cells] at hcs
      obtain ⟨rfl, rfl, rfl⟩ := hcs
      exact ⟨zs, .inr ⟨_, rfl, hl, hm, by simpa using hz, hcell, hwz⟩⟩
  obtain ⟨av, lv, cv, rfl⟩ := okWide_slice Ybaf.underlying23 (hval 1 23 v1 rfl rfl)
  have k1 := h1
  have lt1 : ∀ x ∈ p1, x.block < W.heap.size := by obtain ⟨m, hm⟩ := k1; exact DataW.trod_lt m _ _ _ hm
  obtain ⟨A, L, C, Z, w1⟩ : ∃ A L C Z, IsRows W av lv cv A L C Z := by
    obtain ⟨fuel, hf⟩ := h1
    rcases open_int_rows Ybaf.underlying23 Ybaf.underlying26 Ybaf.underlying5 cells26 cells5 hf with ⟨hcs, _⟩ | ⟨x, l, c, A, L, C, Z, hcs, _, hl, hm, _, hr⟩
    · simp [Value.cells] at hcs
      obtain ⟨rfl, rfl, rfl⟩ := hcs
      exact ⟨fun _ => none, fun _ => 0, fun _ => 0, fun _ => [], .inl ⟨rfl, rfl⟩⟩
    · simp [Value.cells] at hcs
      obtain ⟨rfl, rfl, rfl⟩ := hcs
      exact ⟨A, L, C, Z, .inr ⟨_, rfl, hl, hm, fun r hr' => by
        obtain ⟨g1, g2, g3, g4, _, g6, g7⟩ := hr r hr'
        exact ⟨g1, g2, g3, g4, g6, fun a' ha => (g7 a' ha).2⟩⟩⟩
  obtain ⟨nm, rfl, rfl, rfl, w2⟩ := open_string Ybaf.underlying9 (hval 2 9 v2 rfl rfl) h2
  obtain ⟨pk, rfl, rfl, rfl, w3⟩ := open_int Ybaf.underlying5 (hval 3 5 v3 rfl rfl) h3
  clear hA0 hval0
  refine (walk_any F.told ak av lk ck lv cv ss A L C Z nm pk W hF w0 w1 w2 (bounds_u8 w3)).mono fun e W' ⟨he, bel⟩ => ?_
  subst he
  exact ⟨_, rfl, _, _, _, [], _, [], hW', trodAll_mk1 (shut_bool Ybaf.underlying4 _), (trodAll_cons_mk (Below.trod laidOut (by kernel_rfl) (of_decide_eq_true (by kernel_rfl)) k0 bel lt0) (trodAll_cons_mk (Below.trod laidOut (by kernel_rfl) (of_decide_eq_true (by kernel_rfl)) k1 bel lt1) (trodAll_cons_mk (shut_string Ybaf.underlying9 w2) (trodAll_cons_mk (shut_int Ybaf.underlying5 w3) trodAll_mk0)))), rfl, bel.frame _, fun h => by cases h⟩

theorem proved : Rows.LawS4736AMemberToldSaid :=
  Claim7.holds_of_told_any 3 Ybaf.f3 "fmt.errorf" [] [] _ _ _ (by kernel_rfl) rfl rfl rfl laidOut (by kernel_rfl) rfl ⟨rfl, rfl, rfl, rfl, rfl, rfl, rfl⟩ rfl rfl (by kernel_rfl) (by kernel_rfl) Ybaf.func3 (by kernel_rfl)
    (of_decide_eq_true (by kernel_rfl)) (by unfold Func.isWrapper; first | (rw [if_pos (by decide +kernel)]; kernel_rfl) | (rw [if_neg (by decide +kernel)]; exact ⟨rfl, rfl⟩)) stops.symm rfl stopKnobs.symm (by kernel_rfl)
    (by kernel_rfl) (by kernel_rfl) (by kernel_rfl) (by kernel_rfl) (by kernel_rfl) (by kernel_rfl) (by kernel_rfl) (by kernel_rfl) (by kernel_rfl) rfl (by kernel_rfl) rfl rfl
    rfl rfl
    rfl (by kernel_rfl) (by kernel_rfl) (by kernel_rfl) (by decide) (by kernel_rfl)
    (OpenClaim.moreEntering_of (by kernel_rfl) (by kernel_rfl) (by kernel_rfl) (by kernel_rfl) (by kernel_rfl) (by kernel_rfl) (by kernel_rfl) (by kernel_rfl) (by kernel_rfl) (by kernel_rfl))
    ⟨_, WideRow.started_initial, quiet _⟩
    (fun os started _ H enc _ => lifted os started H enc)
end Go.Proofs.YbulkctbeFmt
