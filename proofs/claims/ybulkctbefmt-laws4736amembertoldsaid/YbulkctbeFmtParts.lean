/-
  THE PARTS OF LawS4736AMember: the closed facts on fmt.errorf's stop at this program; the contracts of 'member' (function 4) and of bytes.Equal at one slice (function 5); the map that the law fills, as a function of the rounds.
-/
import Derived.Test.YbulkctbeFmtProg
import Derived.WalkKit
import Derived.Maps.Own
import Derived.Maps.OwnSet
import Derived.Stop.CallBack
import Derived.Stop.IfaceNil
import Derived.WalkSpells
import Derived.Lib.SliceRun
namespace Go.Proofs.YbulkctbeFmt
open Go.RowKit Go.Maps
open Go.Extern.Stop Go.Stop Go.Extern

theorem call7 (args : Array Value) (w : World) : (callFunc 7 args).run Ybaf.prog w = ((FmtStop.errorf #[9, 36] #[29] args).run Ybaf.prog w).andThen fun v w' => .ok (.value v) w' :=
  run_callFunc_extern Ybaf.func7 (by kernel_rfl) (by kernel_rfl) (by kernel_rfl) (by kernel_rfl) args w
theorem guard (name : String) (w : World) : (FmtStop.guard name).run Ybaf.prog w = .ok () w := by kernel_rfl
theorem fmt0 : FmtStop.printed? ⟨#[37, 115, 32, 105, 115, 32, 109, 105, 115, 115, 105, 110, 103]⟩ 1 = some [(0, 115, false)] := by kernel_rfl
theorem fmt0r (w : World) : (FmtDoors.printed ⟨#[37, 115, 32, 105, 115, 32, 109, 105, 115, 115, 105, 110, 103]⟩ 1).run Ybaf.prog w = .ok [(0, 115, false)] w := by kernel_rfl
def shape9 : List UInt8 := [12, 6, 0, 0, 0, 0, 0, 0, 0, 115, 116, 114, 105, 110, 103]
theorem op9_115 (name : String) (x : ByteArray) (w : World) : (FmtStop.operand name false 115 false (.iface 9 (.string x))).run Ybaf.prog w = .ok (shape9, FmtStop.pack x.data.toList) w := by kernel_rfl
theorem op9_115w (name : String) (x : ByteArray) (w : World) : (FmtStop.operand name true 115 false (.iface 9 (.string x))).run Ybaf.prog w = .ok (shape9, FmtStop.pack x.data.toList) w := by kernel_rfl
theorem strict9 (name : String) (x : ByteArray) (w : World) : (FmtStop.strict name (.iface 9 (.string x))).run Ybaf.prog w = .ok (shape9, FmtStop.pack x.data.toList) w := by kernel_rfl
theorem ptr39 (w : World) : (FmtStop.ptrTo "errors.errorString").run Ybaf.prog w = .ok 39 w := by kernel_rfl
theorem elem39 (w : World) : (elemOf 39).run Ybaf.prog w = .ok 41 w := by kernel_rfl
theorem law9 : Keyed Ybaf.prog 9 := string_keyed Ybaf.underlying9
theorem zero27 (w : World) : (zeroValue 27).run Ybaf.prog w = .ok (.slice none 0 0) w := by kernel_rfl
/-- How an element reads: as itself. -/
def R (v : Value) : Option (DataW Value × List MemPlace) := some (.held v, [])

set_option maxHeartbeats 1000000 in
theorem member_hit (b n : Nat) (D : DataW Value) (s : ByteArray) (v : Value) (w : World) (hs : s.size ≤ maxLen) (hown : w.ownsMap Ybaf.prog 9 R b n D)
    (hh : Maps.has D (.string s.data.toList) = true) (hat : D.atKey (.string s.data.toList) (.held (.slice none 0 0)) = .held v) :
    Calls Ybaf.prog 4 #[.map (some b), .string s] w fun e w' => e = .returned (.tuple #[v, .nilIface]) ∧ w' = w := by
  obtain ⟨v', ps, hrun, hR⟩ := hown.look_ok law9 Ybaf.underlying25 (zero27 w) (zd := .held (.slice none 0 0)) (zp := []) rfl (WideMaps.keyOf_string_mk Ybaf.underlying9 hs)
  rw [hh] at hrun
  rw [hat] at hR
  obtain rfl : v' = v := by simp [R] at hR; exact hR.1
  clear hown hh hat hR
  go_enter Ybaf.func4, Ybaf.ntmps4
  go_wp2
  go_ret2
  exact ⟨rfl, rfl⟩

set_option maxHeartbeats 1000000 in
theorem member_miss (F : Interp) (b n : Nat) (D : DataW Value) (s : ByteArray) (w : World) (hF : F.answers w.tape) (hs : s.size ≤ maxLen) (hown : w.ownsMap Ybaf.prog 9 R b n D)
    (hh : Maps.has D (.string s.data.toList) = false) :
    Calls Ybaf.prog 4 #[.map (some b), .string s] w fun e w' => e = .returned (.tuple #[.slice none 0 0, .iface 39 (.pointer (some ⟨w.heap.size + 1, 0, none⟩))]) ∧ Below w.heap.size w w' := by
  obtain ⟨v', ps, hrun, hR⟩ := hown.look_ok law9 Ybaf.underlying25 (zero27 w) (zd := .held (.slice none 0 0)) (zp := []) rfl (WideMaps.keyOf_string_mk Ybaf.underlying9 hs)
  rw [hh] at hrun
  clear hown hh hR
  have hF' := answers_open hF
  clear hF
  have q0 := call7
  have q1 := guard
  have q2 := fmt0
  have q3 := fmt0r
  have q4 := op9_115
  have q5 := op9_115w
  have q6 := strict9
  have q7 := ptr39
  have q8 := elem39
  go_enter Ybaf.func4, Ybaf.ntmps4
  go_wp2
  go_ret2
  exact ⟨rfl, (((Below.refl _ _).alloc (Nat.le_refl _) _).alloc (by simp) _).drew⟩

theorem equal_same (v : Value) (t : ByteArray) (w : World) (h : (convert 26 9 v).run Ybaf.prog w = .ok (.string t) w) :
    Calls Ybaf.prog 5 #[v, v] w fun e w' => e = .returned (.bool true) ∧ w' = w := by
  go_enter Ybaf.func5, Ybaf.ntmps5
  go_wp2
  go_ret
  refine ⟨?_, rfl⟩
  simp

theorem idx_at {t e : TypeId} (ht : Ybaf.prog.underlying t = some (.slice e)) (hz : ∀ w, (sizeOf e).run Ybaf.prog w = .ok 1 w) (a : Option Addr) (b off l c k : Nat) (ha : a = some ⟨b, off, none⟩) (hk : k < l) (w : World) :
    (Instr.indexAt t (.slice a l c) (.int .i64 (k : Int))).run Ybaf.prog w = .ok (.pointer (some ⟨b, off + k, none⟩)) w := by
  subst ha
  have h2 : (k : Int) < l := by omega
  simp [go_sem, ht, h2, hz, Result.andThen]

/-- The map behind k rounds. -/
def Dm (ss : Nat → ByteArray) (vv : Nat → Value) : Nat → DataW Value
  | 0 => .map []
  | k + 1 => (Dm ss vv k).put (.string (ss k).data.toList) (.held (vv k))
/-- The last place below k at which the key is s, or -1. -/
def fnd (ss : Nat → ByteArray) (s : ByteArray) : Nat → Int
  | 0 => -1
  | k + 1 => if ss k = s then (k : Int) else fnd ss s k

theorem fnd_bd (ss : Nat → ByteArray) (s : ByteArray) : ∀ k, -1 ≤ fnd ss s k ∧ fnd ss s k < k
  | 0 => by simp [fnd]
  | k + 1 => by
    have := fnd_bd ss s k
    unfold fnd
    split <;> omega
theorem dm_map (ss : Nat → ByteArray) (vv : Nat → Value) : ∀ k, Maps.IsMap (Dm ss vv k)
  | 0 => Maps.isMap_empty
  | k + 1 => (dm_map ss vv k).put _ _
theorem ba_ext {a b : ByteArray} (h : a.data.toList = b.data.toList) : a = b := by
  cases a; cases b; simp at h; rw [h]
theorem key_lit (l : List UInt8) : WideAt.IsKeyLit (.string l) := by
  trivial
theorem dm_look (ss : Nat → ByteArray) (vv : Nat → Value) (s : ByteArray) (z : DataW Value) : ∀ k,
    (fnd ss s k < 0 ∧ Maps.has (Dm ss vv k) (.string s.data.toList) = false) ∨
    (∃ i : Nat, i < k ∧ fnd ss s k = i ∧ Maps.has (Dm ss vv k) (.string s.data.toList) = true ∧ (Dm ss vv k).atKey (.string s.data.toList) z = .held (vv i))
  | 0 => .inl ⟨by simp [fnd], rfl⟩
  | k + 1 => by
    by_cases h : ss k = s
    · refine .inr ⟨k, by omega, by simp [fnd, h], ?_, ?_⟩
      · show Maps.has ((Dm ss vv k).put (.string (ss k).data.toList) (.held (vv k))) _ = true
        rw [h]; exact Maps.has_put_same (dm_map ss vv k) (key_lit _) _
      · show ((Dm ss vv k).put (.string (ss k).data.toList) (.held (vv k))).atKey _ z = _
        rw [h]; exact Maps.atKey_put_same (dm_map ss vv k) (key_lit _) _ _
    · have hne : (Lit.string s.data.toList) ≠ .string (ss k).data.toList := by
        intro e
        exact h (ba_ext (Lit.string.inj e).symm)
      rcases dm_look ss vv s z k with ⟨h1, h2⟩ | ⟨i, hi, h1, h2, h3⟩
      · refine .inl ⟨by simpa [fnd, h] using h1, ?_⟩
        show Maps.has ((Dm ss vv k).put (.string (ss k).data.toList) (.held (vv k))) _ = false
        rw [Maps.has_put_other hne]; exact h2
      · refine .inr ⟨i, by omega, by simpa [fnd, h] using h1, ?_, ?_⟩
        · show Maps.has ((Dm ss vv k).put (.string (ss k).data.toList) (.held (vv k))) _ = true
          rw [Maps.has_put_other hne]; exact h2
        · show ((Dm ss vv k).put (.string (ss k).data.toList) (.held (vv k))).atKey _ z = _
          rw [Maps.atKey_put_other hne]; exact h3
end Go.Proofs.YbulkctbeFmt
