/-
  THE CALLEES OF LawS4728BWellFormed AND LawS4728BOtherMethod: 'zzs4728bpick' (function 14): a string as long as the slice, over a table without blank, dot and capital Q; 'nilReceiver' (function 15) at a message that is well formed: by the shelf's contracts of package strings; and the plain laws on lists of bytes.
-/
import Derived.Test.YbulkcswwShelf
import Derived.WalkKit
import Derived.ProofKit
import Derived.OpenShut
import Derived.WalkSpells
import Derived.WalkSmall
import Derived.Deep.QuietTactic
import Derived.BigQuiet
import Derived.Below
namespace Go.Proofs.Ybulkcsww
open Go.RowKit
set_option linter.unusedVariables false

theorem info5 : (Yba.prog.info? 5).map (fun i => (i.zero, i.size, i.bytes)) = some (some (.int .u8 0), 1, 1) := by kernel_rfl
def Pl (c : UInt8) : Prop := c ≠ 32 ∧ c ≠ 46 ∧ c ≠ 81
theorem idx (n : Int) (h0 : 0 ≤ n) (h1 : n < 11) : ∃ c : UInt8, Pl c ∧ ∀ w, (Instr.index 9 (.string ⟨#[97, 98, 99, 88, 89, 90, 95, 48, 57, 47, 42]⟩) (.int .i64 n)).run Yba.prog w = .ok (.int .u8 (c.toNat : Int)) w := by
  have h : n = 0 ∨ n = 1 ∨ n = 2 ∨ n = 3 ∨ n = 4 ∨ n = 5 ∨ n = 6 ∨ n = 7 ∨ n = 8 ∨ n = 9 ∨ n = 10 := by omega
  rcases h with rfl | rfl | rfl | rfl | rfl | rfl | rfl | rfl | rfl | rfl | rfl
  · exact ⟨97, by unfold Pl; decide, fun _ => by kernel_rfl⟩
  · exact ⟨98, by unfold Pl; decide, fun _ => by kernel_rfl⟩
  · exact ⟨99, by unfold Pl; decide, fun _ => by kernel_rfl⟩
  · exact ⟨88, by unfold Pl; decide, fun _ => by kernel_rfl⟩
  · exact ⟨89, by unfold Pl; decide, fun _ => by kernel_rfl⟩
  · exact ⟨90, by unfold Pl; decide, fun _ => by kernel_rfl⟩
  · exact ⟨95, by unfold Pl; decide, fun _ => by kernel_rfl⟩
  · exact ⟨48, by unfold Pl; decide, fun _ => by kernel_rfl⟩
  · exact ⟨57, by unfold Pl; decide, fun _ => by kernel_rfl⟩
  · exact ⟨47, by unfold Pl; decide, fun _ => by kernel_rfl⟩
  · exact ⟨42, by unfold Pl; decide, fun _ => by kernel_rfl⟩
theorem pl_snoc {xs : List UInt8} {c : UInt8} (h : ∀ d ∈ xs, Pl d) (hc : Pl c) : ∀ d ∈ xs ++ [c], Pl d := by
  intro d hd
  rcases List.mem_append.1 hd with h1 | h1
  · exact h d h1
  · simp at h1; rw [h1]; exact hc

set_option maxHeartbeats 800000 in
theorem pick_some (b off len cap : Nat) (zs : List Int) (w : World) (hl : len ≤ 1024) (hlc : len ≤ cap) (hb : b < w.heap.size)
  (hc : ∀ t, t < len → w.cell? ⟨b, off + t, none⟩ = some (.int .u8 (zs.getD t 0))) (hz : ∀ t, 0 ≤ zs.getD t 0 ∧ zs.getD t 0 ≤ 255) :
    Calls Yba.prog 14 #[.slice (some ⟨b, off, none⟩) len cap] w fun e w' => (∃ t : ByteArray, e = .returned (.string t) ∧ t.size = len ∧ ∀ c ∈ t.data.toList, Pl c) ∧ Below w.heap.size w w' := by
  obtain ⟨i0, hi, hz0, hz1, hz2⟩ := info_parts info5
  go_enter Yba.func14, Yba.ntmps14
  go_wp2_with (at_make; refine wpList_make_own _ rfl _ _ 23 rfl w.heap.size 5 i0 (.int .u8 0) 1 Yba.underlying23 hi hz0 hz1 _ _ _ len rfl rfl (by omega) ?b2 ?b3 (Nat.le_refl _) ?_)
  case b2 => rw [hz2]; omega
  case b3 => unfold maxLen; omega
  intro w0 hown0 hgrow0
  go_wp2
  go_loopw [3, 4] (fun out si wr => ∃ (k : Nat) (xs : List UInt8), k ≤ len ∧ si = .int .i64 k ∧ out = .slice (some ⟨w.heap.size, 0, none⟩) k len ∧ xs.length = k ∧ Hid (∀ c ∈ xs, Pl c) ∧
      wr.ownsRow w.heap.size 5 1 (.slice (some ⟨w.heap.size, 0, none⟩) k len) k (xs.map (fun c => Value.int .u8 (c.toNat : Int))) ∧ Below w.heap.size w wr)
    (fun _ si _ => (len - (intOf si).toNat))
  case atStart => exact ⟨0, [], Nat.zero_le _, rfl, rfl, rfl, (show ∀ c ∈ [], Pl c from fun c h => by cases h), hown0, (Below.refl _ _).grown hgrow0 (Nat.le_refl _) (fun k h => by cases h)⟩
  case round =>
    obtain ⟨k, xs, hk, rfl, rfl, hxl, hpl, hown, hnx⟩ := hrel
    by_cases hlt : k < len
    · have ga : wr.cell? ⟨b, off + k, none⟩ = some (.int .u8 (zs.getD k 0)) := (hnx.cell (by exact hb)).trans (hc k hlt)
      obtain ⟨x, hx⟩ : ∃ x, zs.getD k 0 = x := ⟨_, rfl⟩
      have hx0 := hz k
      rw [hx] at ga hx0
      clear hx
      have hxm : 0 ≤ x % 11 ∧ x % 11 < 11 := by omega
      obtain ⟨c, hcp, hidx⟩ := idx (x % 11) hxm.1 hxm.2
      have HC : Hid (Pl c) := hcp
      clear hcp
      go_wp2_with (at_builtin; refine wpList_append_fits _ rfl (.tmp 14) (.tmp 22) 23 rfl w.heap.size 5 i0 1 Yba.underlying23 hi hz1 w.heap.size k len _ rfl (hown.alloc _) ⟨wr.heap.size, 0, none⟩ 1 1 [.int .u8 (c.toNat : Int)] rfl rfl ?c1 ?c2 ?c3 ?_)
      case c1 => 
        intro t u ht
        match t, ht with
        | 0, ht => simp at ht; subst ht; simp [Addr.add]
      case c2 => intro u hu; simp at hu; subst hu; rfl
      case c3 => omega
      intro w1 hown1 hgrow1
      go_wp2
      go_roundw
      case rel => exact ⟨k + 1, xs ++ [c], by omega, by go_num, rfl, by simp [hxl], (show ∀ d ∈ xs ++ [c], Pl d from pl_snoc hpl.out HC.out), by simpa using hown1, (hnx.alloc hnx.size _).grown hgrow1 (by simp; have := hnx.size; omega) (fun k hk => by cases hk; exact Nat.le_refl _)⟩
      case measure => simp [intOf]; omega
    · have hkl : k = len := by omega
      subst hkl
      have hconv := run_convert_bytes_back (P := Yba.prog) wr 23 9 5 ⟨w.heap.size, 0, none⟩ k xs Yba.underlying23 Yba.underlying5 Yba.underlying9 (fun j hj => hown.cells rfl j _ (by simp [List.getElem?_eq_getElem hj]))
      rw [hxl] at hconv
      go_wp2
      go_ret
      refine ⟨⟨_, rfl, by simpa [ByteArray.size] using hxl, by simpa using hpl.out⟩, hnx⟩

set_option maxHeartbeats 800000 in
theorem pick_zero (a : Option Addr) (cap : Nat) (w : World) :
    Calls Yba.prog 14 #[.slice a 0 cap] w fun e w' => (∃ t : ByteArray, e = .returned (.string t) ∧ t.size = 0 ∧ ∀ c ∈ t.data.toList, Pl c) ∧ Below w.heap.size w w' := by
  obtain ⟨i0, hi, hz0, hz1, hz2⟩ := info_parts info5
  go_enter Yba.func14, Yba.ntmps14
  go_wp2_with (at_make; refine wpList_make_own _ rfl _ _ 23 rfl w.heap.size 5 i0 (.int .u8 0) 1 Yba.underlying23 hi hz0 hz1 _ _ _ 0 rfl rfl (by omega) ?b2 ?b3 (Nat.le_refl _) ?_)
  case b2 => rw [hz2]; omega
  case b3 => unfold maxLen; omega
  intro w0 hown0 hgrow0
  have hconv := run_convert_bytes_back (P := Yba.prog) w0 23 9 5 ⟨w.heap.size, 0, none⟩ 0 [] Yba.underlying23 Yba.underlying5 Yba.underlying9 (fun j hj => by cases hj)
  simp only [List.length_nil] at hconv
  go_wp2
  refine wp_loop_rounds 1 ?_
  rw [rounds_succ]
  go_wp2
  go_ret
  exact ⟨⟨_, rfl, rfl, by simp⟩, (Below.refl _ _).grown hgrow0 (Nat.le_refl _) (fun k h => by cases h)⟩

def mid : List UInt8 := [32, 99, 97, 108, 108, 101, 100, 32, 117, 115, 105, 110, 103, 32, 110, 105, 108, 32, 42]
def suf : List UInt8 := [32, 112, 111, 105, 110, 116, 101, 114]
def sta : List UInt8 := [118, 97, 108, 117, 101, 32, 109, 101, 116, 104, 111, 100, 32]

theorem ba_ext {a b : ByteArray} (h : a.data.toList = b.data.toList) : a = b := by
  cases a; cases b; simp at h; rw [h]

theorem cut_any (msg R : ByteArray) (h : msg.data.toList = R.data.toList ++ suf) (hs : msg.size ≤ 100000) (w : World) :
    Calls Yba.prog 18 #[.string msg, .string ⟨#[32, 112, 111, 105, 110, 116, 101, 114]⟩] w fun e w' => e = .returned (.tuple #[.string R, .bool true]) ∧ w' = w := by
  refine (Yba.strings_CutSuffix msg _ w (by omega)).mono ?_
  rintro e w' ⟨rfl, rfl⟩
  refine ⟨?_, rfl⟩
  have hsuf : Lib.hasSuffix msg.data.toList [32, 112, 111, 105, 110, 116, 101, 114] = true := by
    rw [h]; simp [Lib.hasSuffix, suf]
  have h2 : ({ data := (Lib.trimSuffix msg.data.toList [32, 112, 111, 105, 110, 116, 101, 114]).toArray } : ByteArray) = R := by
    apply ba_ext
    simp only [Lib.trimSuffix, hsuf, if_true]
    rw [h]
    simp [suf]
  show Ending.returned (.tuple #[.string { data := (Lib.trimSuffix msg.data.toList [32, 112, 111, 105, 110, 116, 101, 114]).toArray }, .bool (Lib.hasSuffix msg.data.toList [32, 112, 111, 105, 110, 116, 101, 114])]) = _
  rw [hsuf, h2]
theorem pre_any (msg : ByteArray) (l : List UInt8) (h : msg.data.toList = sta ++ l) (w : World) :
    Calls Yba.prog 20 #[.string msg, .string ⟨#[118, 97, 108, 117, 101, 32, 109, 101, 116, 104, 111, 100, 32]⟩] w fun e w' => e = .returned (.bool true) ∧ w' = w := by
  refine (Yba.strings_HasPrefix msg _ w).mono ?_
  rintro e w' ⟨rfl, rfl⟩
  refine ⟨?_, rfl⟩
  have hp : Lib.hasPrefix msg.data.toList [118, 97, 108, 117, 101, 32, 109, 101, 116, 104, 111, 100, 32] = true := by
    rw [h]; simp [Lib.hasPrefix, sta]
  show Ending.returned (.bool (Lib.hasPrefix msg.data.toList [118, 97, 108, 117, 101, 32, 109, 101, 116, 104, 111, 100, 32])) = _
  rw [hp]
theorem occ_none (T : List UInt8) (hT : ∀ c ∈ T, c ≠ 32) (k : Nat) (hk : 1 ≤ k) : Lib.occAt (mid ++ T) mid k = false := by
  have key : ∀ l : List UInt8, (∀ c ∈ l, c ≠ 32) → mid.isPrefixOf l = false := by
    intro l hl
    cases l with
    | nil => rfl
    | cons c l =>
      have hc : c ≠ 32 := hl c (by simp)
      simp only [mid, List.isPrefixOf]
      have : ((32 : UInt8) == c) = false := by simpa using fun h => hc h.symm
      simp [this]
  unfold Lib.occAt
  by_cases h19 : 19 ≤ k
  · apply key
    intro c hc
    rw [List.drop_append, show List.drop k mid = [] from List.drop_of_length_le (by simp [mid]; omega)] at hc
    exact hT c (List.mem_of_mem_drop (by simpa using hc))
  · have : k = 1 ∨ k = 2 ∨ k = 3 ∨ k = 4 ∨ k = 5 ∨ k = 6 ∨ k = 7 ∨ k = 8 ∨ k = 9 ∨ k = 10 ∨ k = 11 ∨ k = 12 ∨ k = 13 ∨ k = 14 ∨ k = 15 ∨ k = 16 ∨ k = 17 ∨ k = 18 := by omega
    rcases this with rfl | rfl | rfl | rfl | rfl | rfl | rfl | rfl | rfl | rfl | rfl | rfl | rfl | rfl | rfl | rfl | rfl | rfl <;> simp [mid, List.isPrefixOf]
theorem last_eq (A T : List UInt8) (hT : ∀ c ∈ T, c ≠ 32) : Lib.lastIndex (A ++ mid ++ T) mid = A.length := by
  unfold Lib.lastIndex
  rw [if_pos (by simp; omega)]
  have hlen : (A ++ mid ++ T).length - mid.length + 1 = A.length + T.length + 1 := by simp; omega
  rw [hlen]
  have hit : Lib.occAt (A ++ mid ++ T) mid A.length = true := by
    unfold Lib.occAt; simp
  have miss : ∀ j, A.length < j → Lib.occAt (A ++ mid ++ T) mid j = false := by
    intro j hj
    have := occ_none T hT (j - A.length) (by omega)
    unfold Lib.occAt at this ⊢
    rw [List.append_assoc, List.drop_append, List.drop_of_length_le (by omega), List.nil_append]
    exact this
  rcases Lib.lastOcc_spec (A ++ mid ++ T) mid (A.length + T.length + 1) with ⟨e, hn⟩ | ⟨i, hi, e, ho, hn⟩
  · have := hn A.length (by omega); rw [hit] at this; cases this
  · have h1 : ¬ A.length < i := fun h => by have := miss i h; rw [ho] at this; cases this
    have h2 : ¬ i < A.length := fun h => by have := hn A.length h (by omega); rw [hit] at this; cases this
    rw [e]; have : i = A.length := by omega
    rw [this]
theorem last_any (R A T : ByteArray) (h : R.data.toList = A.data.toList ++ mid ++ T.data.toList) (hT : ∀ c ∈ T.data.toList, c ≠ 32) (hs : R.size ≤ 100000) (w : World) :
    Calls Yba.prog 19 #[.string R, .string ⟨#[32, 99, 97, 108, 108, 101, 100, 32, 117, 115, 105, 110, 103, 32, 110, 105, 108, 32, 42]⟩] w fun e w' => e = .returned (.int .i64 A.size) ∧ w' = w := by
  refine (Yba.strings_LastIndex R _ (by omega) w).mono ?_
  rintro e w' ⟨rfl, rfl⟩
  refine ⟨?_, rfl⟩
  have := last_eq A.data.toList T.data.toList hT
  rw [← h] at this
  show Ending.returned (.int .i64 (Lib.lastIndex R.data.toList mid)) = _
  rw [this]
  simp

theorem ext_left (R A : ByteArray) (l : List UInt8) (h : R.data.toList = A.data.toList ++ l) : R.extract 0 A.size = A := by
  apply ba_ext
  rw [Lib.extract_data, h]
  simp
theorem ext_right (R T : ByteArray) (l : List UInt8) (n : Nat) (hn : n = l.length) (h : R.data.toList = l ++ T.data.toList) : R.extract n R.size = T := by
  apply ba_ext
  rw [Lib.extract_data, h, hn]
  have : R.size = l.length + T.data.toList.length := by rw [Lib.size_eq, h]; simp
  rw [this]; simp [List.take_of_length_le]

theorem hide {p : Prop} (h : p) : Hid p := h
theorem unhide {p : Prop} (h : Hid p) : p := h

set_option maxHeartbeats 1000000 in
theorem nil_any (msg method R A T : ByteArray) (b : Bool) (l : List UInt8) (w : World) (hs : msg.size ≤ 50000) (hms : method.size ≤ 50000)
    (h0 : msg.data.toList = R.data.toList ++ suf) (h1 : R.data.toList = A.data.toList ++ mid ++ T.data.toList) (h2 : msg.data.toList = sta ++ l) (hT : ∀ c ∈ T.data.toList, c ≠ 32)
    (hb : Lib.hasSuffix A.data.toList (46 :: (T.data.toList ++ 46 :: method.data.toList)) = b) :
    Calls Yba.prog 15 #[.string msg, .string method] w fun e w' => e = .returned (.tuple #[.string T, .bool b]) ∧ Below w.heap.size w w' := by
  have hRs : R.size ≤ 50000 := by
    have e1 := Lib.size_eq msg; have e2 := Lib.size_eq R; rw [h0] at e1; simp at e1; omega
  have hRe : R.size = A.size + 19 + T.size := by
    have e1 := Lib.size_eq R; have e2 := Lib.size_eq A; have e3 := Lib.size_eq T; rw [h1] at e1; simp [mid] at e1; omega
  have hsl1 : ∀ w, (Instr.slice 9 (.string R) none (some (.int .i64 A.size)) none).run Yba.prog w = .ok (.string A) w := fun w => by
    rw [run_slice_string_to_if w 9 R .i64 _ Yba.underlying9, if_pos (by omega), Int.toNat_natCast, ext_left R A (mid ++ T.data.toList) (by rw [h1, List.append_assoc])]
  have hsl2 : ∀ w, (Instr.slice 9 (.string R) (some (.int .i64 ((A.size : Int) + 19))) none none).run Yba.prog w = .ok (.string T) w := fun w => by
    rw [run_slice_string_from_if w 9 R .i64 _ Yba.underlying9, if_pos (by omega), show ((A.size : Int) + 19).toNat = A.size + 19 from by omega, ext_right R T (A.data.toList ++ mid) (A.size + 19) (by simp [mid]) h1]
  have hAs : A.size ≤ 50000 := by omega
  have hTs : T.size ≤ 50000 := by omega
  have H0 := hide h0
  have H1 := hide h1
  have H2 := hide h2
  have HT := hide hT
  have HB := hide hb
  have HR := hide hRe
  clear h0 h1 h2 hT hb hRe
  go_enter Yba.func15, Yba.ntmps15
  go_wp2_with (first
    | (go_at_call 18; refine (cut_any msg R (unhide H0) (by omega) _).mono ?_; rintro e w' ⟨rfl, rfl⟩)
    | (go_at_call 19; refine (last_any R A T (unhide H1) (unhide HT) (by omega) _).mono ?_; rintro e w' ⟨rfl, rfl⟩)
    | (go_at_call 20; refine (pre_any msg l (unhide H2) _).mono ?_; rintro e w' ⟨rfl, rfl⟩))
  go_quiet (fail)
  go_wp2_with (go_at_call 21; refine (Yba.strings_HasSuffix A _ _ (by omega)).mono ?_; rintro e w' ⟨rfl, rfl⟩)
  go_ret2
  refine ⟨?_, below_drewN (Below.refl _ _) _⟩
  show Ending.returned (.tuple #[.string T, .bool (Lib.hasSuffix A.data.toList (46 :: (T.data.toList ++ 46 :: method.data.toList)))]) = _
  rw [unhide HB]

/-- WHAT IS ASKED OF A SLICE OF BYTES THAT CAME IN: nil; or a row of 'cap' cells. -/
theorem pick_any (a : Option Addr) (len cap : Nat) (zs : List Int) (w : World) (hl : len ≤ 1024)
    (h : (a = none ∧ len = 0 ∧ cap = 0 ∧ zs = []) ∨ ∃ x, a = some x ∧ len ≤ cap ∧ cap ≤ maxLen ∧ zs.length = cap ∧ (∀ i, i < zs.length → w.cell? (x.add i) = some (.int .u8 (zs.getD i 0))) ∧ ∀ n ∈ zs, (Lit.int .u8 n).wf = true) :
    Calls Yba.prog 14 #[.slice a len cap] w fun e w' => (∃ t : ByteArray, e = .returned (.string t) ∧ t.size = len ∧ ∀ c ∈ t.data.toList, Pl c) ∧ Below w.heap.size w w' := by
  rcases Nat.eq_zero_or_pos len with h0 | h0
  · subst h0
    exact pick_zero a cap w
  · rcases h with ⟨_, e, _⟩ | ⟨x, rfl, hlc, _, hz, hc, hw⟩
    · omega
    · obtain ⟨b, off, rfl, hc'⟩ := ints_at hc (by omega)
      have hb : b < w.heap.size := by
        have := hc' 0 (by omega)
        exact World.block_lt_of_cell? w _ this
      exact pick_some b off len cap zs w hl hlc hb (fun t ht => hc' t (by omega)) (fun t => by
        by_cases ht : t < zs.length
        · have hm : zs.getD t 0 ∈ zs := by rw [List.getD_eq_getElem?_getD, List.getElem?_eq_getElem ht]; exact List.getElem_mem ht
          have := bounds_u8 (hw _ hm)
          omega
        · rw [List.getD_eq_getElem?_getD, List.getElem?_eq_none (by omega)]; decide)
end Go.Proofs.Ybulkcsww
