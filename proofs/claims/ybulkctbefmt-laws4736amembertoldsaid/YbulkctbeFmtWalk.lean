/-
  THE WALK OF LawS4736AMember (function 3), for every answer F of fmt's stop: keys and values of at most 1024 elements each.
-/
import Derived.Test.YbulkctbeFmtParts
namespace Go.Proofs.YbulkctbeFmt
open Go.RowKit Go.Maps
open Go.Extern.Stop Go.Stop Go.Extern
set_option linter.unusedVariables false

def vAt (lv : Nat) (va : Nat → Option Addr) (vn vc : Nat → Nat) (i : Nat) : Value := if i < lv then .slice (va i) (vn i) (vc i) else .slice none 0 0

theorem hide {p : Prop} (h : p) : Hid p := h
theorem unhide {p : Prop} (h : Hid p) : p := h
theorem bytes_eq {a b : ByteArray} : (a.toList == b.toList) = true ↔ a = b := by
  rw [beq_iff_eq]
  constructor
  · intro h
    apply ba_ext
    rwa [ByteArray.toList_eq, ByteArray.toList_eq] at h
  · intro h; rw [h]
theorem fnd_hit {ss : Nat → ByteArray} {s : ByteArray} {k : Nat} (h : ((ss k).toList == s.toList) = true) : fnd ss s (k + 1) = k := by
  simp [fnd, bytes_eq.1 h]
theorem fnd_miss {ss : Nat → ByteArray} {s : ByteArray} {k : Nat} (h : ((ss k).toList == s.toList) = false) : fnd ss s (k + 1) = fnd ss s k := by
  have : ¬ ss k = s := fun e => by rw [bytes_eq.2 e] at h; cases h
  simp [fnd, this]
theorem own_below {w w' : World} {b n : Nat} {D : DataW Value} (h : w.ownsMap Ybaf.prog 9 R b n D) (hb : Below w.heap.size w w') : w'.ownsMap Ybaf.prog 9 R b n D := by
  have hlt := h.lt
  obtain ⟨es, clock, h1, h2, h3, h4⟩ := h
  exact ⟨es, clock, (hb.block b hlt).trans h1, h2, h3, h4⟩
theorem nil_string (w : World) : (convert 26 9 (.slice none 0 0)).run Ybaf.prog w = .ok (.string ⟨#[]⟩) w :=
  run_convert_bytes_nil w 26 5 Ybaf.underlying26 Ybaf.underlying5 0 0 9 Ybaf.underlying9

set_option maxHeartbeats 2000000 in
theorem walk_main (F : Interp) (ak av : Option Addr) (bk ok lk ck bv ov lv cv : Nat) (ss : Nat → ByteArray) (va : Nat → Option Addr) (vn vc : Nat → Nat) (nm : ByteArray) (p : Int) (w : World)
    (hF : F.answers w.tape) (hlk : lk ≤ 1024) (hlv : lv ≤ 1024)
    (hak : 0 < lk → ak = some ⟨bk, ok, none⟩) (hav : 0 < lv → av = some ⟨bv, ov, none⟩)
    (hkc : ∀ i, i < lk → w.cell? ⟨bk, ok + i, none⟩ = some (.string (ss i)))
    (hvc : ∀ i, i < lv → w.cell? ⟨bv, ov + i, none⟩ = some (.slice (va i) (vn i) (vc i)))
    (hss : ∀ i, i < lk → (ss i).size ≤ maxLen) (hnm : nm.size ≤ maxLen) (hp : 0 ≤ p ∧ p ≤ 255)
    (hvs : ∀ i, i < lv → ∃ t, ∀ w', Below w.heap.size w w' → (convert 26 9 (.slice (va i) (vn i) (vc i))).run Ybaf.prog w' = .ok (.string t) w') :
    Calls Ybaf.prog 3 #[.slice ak lk ck, .slice av lv cv, .string nm, .int .u8 p] w fun e w' => e = .returned (.bool true) ∧ Below w.heap.size w w' := by
  have hmm := @run_makeMap Ybaf.prog
  have q27 : ∀ (w : World) (a : Option Addr) (n c n' c' : Nat), (binOp .eql 27 (.slice a n c) (.slice none n' c')).run Ybaf.prog w = .ok (.bool a.isNone) w := fun w a n c n' c' => Lib.run_eql_slice_nil w _ _ a n c n' c' Ybaf.underlying27
  have q26 : ∀ (w : World) (a : Option Addr) (n c n' c' : Nat), (binOp .eql 26 (.slice a n c) (.slice none n' c')).run Ybaf.prog w = .ok (.bool a.isNone) w := fun w a n c n' c' => Lib.run_eql_slice_nil w _ _ a n c n' c' Ybaf.underlying26
  have hkc' : ∀ i, i < lk → ∀ w', Below w.heap.size w w' → w'.cell? ⟨bk, ok + i, none⟩ = some (.string (ss i)) := fun i hi w' hb => (hb.cell (World.block_lt_of_cell? w _ (hkc i hi))).trans (hkc i hi)
  have hvc' : ∀ i, i < lv → ∀ w', Below w.heap.size w w' → w'.cell? ⟨bv, ov + i, none⟩ = some (.slice (va i) (vn i) (vc i)) := fun i hi w' hb => (hb.cell (World.block_lt_of_cell? w _ (hvc i hi))).trans (hvc i hi)
  have kx : ∀ i, i < lk → ∀ w', (Instr.indexAt 22 (.slice ak lk ck) (.int .i64 (i : Int))).run Ybaf.prog w' = .ok (.pointer (some ⟨bk, ok + i, none⟩)) w' := fun i hi w' => idx_at Ybaf.underlying22 Ybaf.sizeOf9 ak bk ok lk ck i (hak (by omega)) hi w'
  have vx : ∀ i, i < lv → ∀ w', (Instr.indexAt 23 (.slice av lv cv) (.int .i64 (i : Int))).run Ybaf.prog w' = .ok (.pointer (some ⟨bv, ov + i, none⟩)) w' := fun i hi w' => idx_at Ybaf.underlying23 Ybaf.sizeOf26 av bv ov lv cv i (hav (by omega)) hi w'
  have HKC : Hid (∀ i, i < lk → ∀ w', Below w.heap.size w w' → w'.cell? ⟨bk, ok + i, none⟩ = some (.string (ss i))) := hkc'
  have HVC : Hid (∀ i, i < lv → ∀ w', Below w.heap.size w w' → w'.cell? ⟨bv, ov + i, none⟩ = some (.slice (va i) (vn i) (vc i))) := hvc'
  have KX : Hid (∀ i, i < lk → ∀ w', (Instr.indexAt 22 (.slice ak lk ck) (.int .i64 (i : Int))).run Ybaf.prog w' = .ok (.pointer (some ⟨bk, ok + i, none⟩)) w') := kx
  have VX : Hid (∀ i, i < lv → ∀ w', (Instr.indexAt 23 (.slice av lv cv) (.int .i64 (i : Int))).run Ybaf.prog w' = .ok (.pointer (some ⟨bv, ov + i, none⟩)) w') := vx
  have HSS : Hid (∀ i, i < lk → (ss i).size ≤ maxLen) := hss
  have HVS : Hid (∀ i, i < lv → ∃ t, ∀ w', Below w.heap.size w w' → (convert 26 9 (.slice (va i) (vn i) (vc i))).run Ybaf.prog w' = .ok (.string t) w') := hvs
  have HF : Hid (F.answers w.tape) := hF
  clear hkc hvc hkc' hvc' kx vx hss hvs hF hak hav
  go_enter Ybaf.func3, Ybaf.ntmps3
  go_wp2
  go_loopw [10] (fun si wr => ∃ k : Nat, k ≤ lk ∧ si = .int .i64 k ∧ wr.ownsMap Ybaf.prog 9 R w.heap.size k (Dm ss (vAt lv va vn vc) k) ∧ Below w.heap.size w wr)
    (fun si _ => lk - (intOf si).toNat)
  case atStart => exact ⟨0, Nat.zero_le _, rfl, World.ownsMap_made _ _ _ _, (Below.refl _ _).alloc (Nat.le_refl _) _⟩
  case round =>
    obtain ⟨k, hk, rfl, hown, hnx⟩ := hrel
    by_cases hlt : k < lk
    · have g1 := KX.out k hlt
      have g2 := HKC.out k hlt wr hnx
      obtain ⟨s, hs⟩ : ∃ s, ss k = s := ⟨_, rfl⟩
      have hsz := HSS.out k hlt
      rw [hs] at g2 hsz
      have HS : Hid (ss k = s) := hs
      clear hs
      by_cases hv : k < lv
      · have g3 := VX.out k hv
        have g4 := HVC.out k hv wr hnx
        go_wp2_with (at_mapUpdate; refine wpList_mapUpdate_own _ rfl _ _ _ 25 rfl 9 27 law9 Ybaf.underlying25 R w.heap.size k _ rfl hown (by unfold maxLen; omega) _ _ _ rfl rfl (WideMaps.keyOf_string_mk Ybaf.underlying9 hsz) _ [] rfl ?_)
        intro w1 hown1 hgrow1
        go_wp2
        go_roundw
        case rel => exact ⟨k + 1, by omega, by go_num, (by rw [Dm, HS.out, vAt, if_pos hv]; exact hown1), hnx.grown hgrow1 hnx.size (fun j hj => by cases hj; exact Nat.le_refl _)⟩
        case measure => simp [intOf]; omega
      · go_wp2_with (at_mapUpdate; refine wpList_mapUpdate_own _ rfl _ _ _ 25 rfl 9 27 law9 Ybaf.underlying25 R w.heap.size k _ rfl hown (by unfold maxLen; omega) _ _ _ rfl rfl (WideMaps.keyOf_string_mk Ybaf.underlying9 hsz) _ [] rfl ?_)
        intro w1 hown1 hgrow1
        go_wp2
        go_roundw
        case rel => exact ⟨k + 1, by omega, by go_num, (by rw [Dm, HS.out, vAt, if_neg hv]; exact hown1), hnx.grown hgrow1 hnx.size (fun j hj => by cases hj; exact Nat.le_refl _)⟩
        case measure => simp [intOf]; omega
    · obtain rfl : lk = k := by omega
      clear hlt hk
      by_cases hpe : p % 2 = 0
      · by_cases hl0 : 0 < lk
        · obtain ⟨j, hj⟩ : ∃ j : Nat, p / 2 % (lk : Int) = (j : Int) := Int.eq_ofNat_of_zero_le (Int.emod_nonneg _ (by omega))
          have hjl : j < lk := by have := Int.emod_lt_of_pos (p / 2) (show (0 : Int) < lk by omega); omega
          have g1 : ∀ w', (Instr.indexAt 22 (.slice ak lk ck) (.int .i64 (p / 2 % (lk : Int)))).run Ybaf.prog w' = .ok (.pointer (some ⟨bk, ok + j, none⟩)) w' := fun w' => by rw [hj]; exact KX.out j hjl w'
          have g2 := HKC.out j hjl wr hnx
          have hsz := HSS.out j hjl
          obtain ⟨s, hs⟩ : ∃ s, ss j = s := ⟨_, rfl⟩
          rw [hs] at g2 hsz
          clear hs hj hnm
          go_wp2
          go_loop [12, 13] (fun sf si => ∃ k : Nat, k ≤ lk ∧ si = .int .i64 k ∧ sf = .int .i64 (fnd ss s k)) (fun _ si => lk - (intOf si).toNat)
          case atStart => exact ⟨0, Nat.zero_le _, rfl, rfl⟩
          case round =>
            obtain ⟨k, hk, rfl, rfl⟩ := hrel
            by_cases hlt : k < lk
            · have g1 := KX.out k hlt
              have g2 := HKC.out k hlt wr hnx
              go_wp2
              · have ht : ((ss k).toList == s.toList) = true := by assumption
                go_round
                case rel => exact ⟨k + 1, by omega, by go_num, by rw [fnd_hit ht]⟩
                case measure => simp [intOf]; omega
              · have ht : ((ss k).toList == s.toList) = false := by assumption
                go_round
                case rel => exact ⟨k + 1, by omega, by go_num, by rw [fnd_miss ht]⟩
                case measure => simp [intOf]; omega
            · obtain rfl : lk = k := by omega
              clear hlt hk
              have hlen := fun ty => hown.len Ybaf.underlying25 ty
              rcases dm_look ss (vAt lv va vn vc) s (.held (.slice none 0 0)) lk with ⟨h1, h2⟩ | ⟨i, hi, h1, h2, h3⟩
              · have H2 := hide h2
                have OWN := hide hown
                have hfb := (fnd_bd ss s lk).1
                clear h2 hown
                go_wp2_with fail
                refine (member_miss F _ _ _ s _ (by rw [hnx.tape]; exact HF.out) hsz (unhide OWN) (unhide H2)).mono ?_
                rintro e w4 ⟨rfl, hb4⟩
                have hlen4 := fun ty => (own_below (unhide OWN) hb4).len Ybaf.underlying25 ty
                go_wp2
                go_ret
                exact ⟨rfl, hnx.trans (hb4.mono hnx.size)⟩
              · rw [h1]
                have H2 := hide h2
                have H3 := hide h3
                have OWN := hide hown
                clear h1 h2 h3 hown
                by_cases hiv : i < lv
                · have g3 := VX.out i hiv
                  have g4 := HVC.out i hiv wr hnx
                  obtain ⟨t, ht⟩ := HVS.out i hiv
                  have H3' : Hid ((Dm ss (vAt lv va vn vc) lk).atKey (.string s.data.toList) (.held (.slice none 0 0)) = .held (.slice (va i) (vn i) (vc i))) := by
                    have := unhide H3
                    rw [vAt, if_pos hiv] at this
                    exact this
                  clear H3
                  have HT := hide (ht wr hnx)
                  clear ht
                  go_wp2_with fail
                  refine (member_hit _ _ _ s (.slice (va i) (vn i) (vc i)) _ hsz (unhide OWN) (unhide H2) (unhide H3')).mono ?_
                  rintro e w4 ⟨rfl, rfl⟩
                  go_wp2_with fail
                  refine (equal_same _ t _ (unhide HT)).mono ?_
                  rintro e w5 ⟨rfl, rfl⟩
                  go_wp2
                  go_ret
                  exact ⟨rfl, hnx⟩
                · have H3' : Hid ((Dm ss (vAt lv va vn vc) lk).atKey (.string s.data.toList) (.held (.slice none 0 0)) = .held (.slice none 0 0)) := by
                    have := unhide H3
                    rw [vAt, if_neg hiv] at this
                    exact this
                  clear H3
                  go_wp2_with fail
                  refine (member_hit _ _ _ s (.slice none 0 0) _ hsz (unhide OWN) (unhide H2) (unhide H3')).mono ?_
                  rintro e w4 ⟨rfl, rfl⟩
                  go_wp2_with fail
                  refine (equal_same _ ⟨#[]⟩ _ (nil_string _)).mono ?_
                  rintro e w5 ⟨rfl, rfl⟩
                  go_wp2
                  go_ret
                  exact ⟨rfl, hnx⟩
        · go_wp2
          rename ByteArray => s
          have hsz := hnm
          clear hnm
          go_loop [12, 13] (fun sf si => ∃ k : Nat, k ≤ lk ∧ si = .int .i64 k ∧ sf = .int .i64 (fnd ss s k)) (fun _ si => lk - (intOf si).toNat)
          case atStart => exact ⟨0, Nat.zero_le _, rfl, rfl⟩
          case round =>
            obtain ⟨k, hk, rfl, rfl⟩ := hrel
            by_cases hlt : k < lk
            · exact absurd hlt (by omega)
            · obtain rfl : lk = k := by omega
              clear hlt hk
              have hlen := fun ty => hown.len Ybaf.underlying25 ty
              rcases dm_look ss (vAt lv va vn vc) s (.held (.slice none 0 0)) lk with ⟨h1, h2⟩ | ⟨i, hi, h1, h2, h3⟩
              · have H2 := hide h2
                have OWN := hide hown
                have hfb := (fnd_bd ss s lk).1
                clear h2 hown
                go_wp2_with fail
                refine (member_miss F _ _ _ s _ (by rw [hnx.tape]; exact HF.out) hsz (unhide OWN) (unhide H2)).mono ?_
                rintro e w4 ⟨rfl, hb4⟩
                have hlen4 := fun ty => (own_below (unhide OWN) hb4).len Ybaf.underlying25 ty
                go_wp2
                go_ret
                exact ⟨rfl, hnx.trans (hb4.mono hnx.size)⟩
              · exact absurd hi (by omega)
      · go_wp2
        rename ByteArray => s
        have hsz := hnm
        clear hnm
        go_loop [12, 13] (fun sf si => ∃ k : Nat, k ≤ lk ∧ si = .int .i64 k ∧ sf = .int .i64 (fnd ss s k)) (fun _ si => lk - (intOf si).toNat)
        case atStart => exact ⟨0, Nat.zero_le _, rfl, rfl⟩
        case round =>
          obtain ⟨k, hk, rfl, rfl⟩ := hrel
          by_cases hlt : k < lk
          · have g1 := KX.out k hlt
            have g2 := HKC.out k hlt wr hnx
            go_wp2
            · have ht : ((ss k).toList == s.toList) = true := by assumption
              go_round
              case rel => exact ⟨k + 1, by omega, by go_num, by rw [fnd_hit ht]⟩
              case measure => simp [intOf]; omega
            · have ht : ((ss k).toList == s.toList) = false := by assumption
              go_round
              case rel => exact ⟨k + 1, by omega, by go_num, by rw [fnd_miss ht]⟩
              case measure => simp [intOf]; omega
          · obtain rfl : lk = k := by omega
            clear hlt hk
            have hlen := fun ty => hown.len Ybaf.underlying25 ty
            rcases dm_look ss (vAt lv va vn vc) s (.held (.slice none 0 0)) lk with ⟨h1, h2⟩ | ⟨i, hi, h1, h2, h3⟩
            · have H2 := hide h2
              have OWN := hide hown
              have hfb := (fnd_bd ss s lk).1
              clear h2 hown
              go_wp2_with fail
              refine (member_miss F _ _ _ s _ (by rw [hnx.tape]; exact HF.out) hsz (unhide OWN) (unhide H2)).mono ?_
              rintro e w4 ⟨rfl, hb4⟩
              have hlen4 := fun ty => (own_below (unhide OWN) hb4).len Ybaf.underlying25 ty
              go_wp2
              go_ret
              exact ⟨rfl, hnx.trans (hb4.mono hnx.size)⟩
            · rw [h1]
              have H2 := hide h2
              have H3 := hide h3
              have OWN := hide hown
              clear h1 h2 h3 hown
              by_cases hiv : i < lv
              · have g3 := VX.out i hiv
                have g4 := HVC.out i hiv wr hnx
                obtain ⟨t, ht⟩ := HVS.out i hiv
                have H3' : Hid ((Dm ss (vAt lv va vn vc) lk).atKey (.string s.data.toList) (.held (.slice none 0 0)) = .held (.slice (va i) (vn i) (vc i))) := by
                  have := unhide H3
                  rw [vAt, if_pos hiv] at this
                  exact this
                clear H3
                have HT := hide (ht wr hnx)
                clear ht
                go_wp2_with fail
                refine (member_hit _ _ _ s (.slice (va i) (vn i) (vc i)) _ hsz (unhide OWN) (unhide H2) (unhide H3')).mono ?_
                rintro e w4 ⟨rfl, rfl⟩
                go_wp2_with fail
                refine (equal_same _ t _ (unhide HT)).mono ?_
                rintro e w5 ⟨rfl, rfl⟩
                go_wp2
                go_ret
                exact ⟨rfl, hnx⟩
              · have H3' : Hid ((Dm ss (vAt lv va vn vc) lk).atKey (.string s.data.toList) (.held (.slice none 0 0)) = .held (.slice none 0 0)) := by
                  have := unhide H3
                  rw [vAt, if_neg hiv] at this
                  exact this
                clear H3
                go_wp2_with fail
                refine (member_hit _ _ _ s (.slice none 0 0) _ hsz (unhide OWN) (unhide H2) (unhide H3')).mono ?_
                rintro e w4 ⟨rfl, rfl⟩
                go_wp2_with fail
                refine (equal_same _ ⟨#[]⟩ _ (nil_string _)).mono ?_
                rintro e w5 ⟨rfl, rfl⟩
                go_wp2
                go_ret
                exact ⟨rfl, hnx⟩
end Go.Proofs.YbulkctbeFmt
