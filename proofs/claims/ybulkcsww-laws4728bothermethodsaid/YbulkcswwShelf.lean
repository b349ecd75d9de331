/-
  THE CONTRACTS OF strings.LastIndex, HasPrefix, HasSuffix, CutSuffix AT THIS PROGRAM, out of the shelf's contracts over any program (Derived.Shelf): the tables of numbers and the layings in plain text.
-/
import Derived.Test.YbulkcswwProg
import Derived.Shelf.Strings.LastIndexAll
import Derived.Shelf.Strings.Prefix
import Derived.Shelf.Small.Wraps
namespace Go.Proofs.Ybulkcsww
open Go.Shelf
def Yba.lays148_ren : Go.Shelf.Ren := ⟨fun | 148 => 19 | 222 => 24 | 223 => 25 | 269 => 29 | n => n, fun | 9 => 9 | 3 => 3 | 4 => 4 | 5 => 5 | 146 => 53 | 51 => 52 | 46 => 56 | n => n, fun n => n⟩
theorem Yba.lays148 : Lays.n148 Yba.prog Yba.lays148_ren := {
  mixed := by kernel_rfl,
  f148 := Yba.func19.trans (congrArg some (by kernel_rfl)),
  f222 := Yba.func24.trans (congrArg some (by kernel_rfl)),
  f223 := Yba.func25.trans (congrArg some (by kernel_rfl)),
  f269 := Yba.func29.trans (congrArg some (by kernel_rfl)),
  t3 := Yba.underlying3,
  a3 := Yba.isAgg3,
  z3 := Yba.sizeOf3,
  v3 := Yba.zeroValue3,
  t4 := Yba.underlying4,
  a4 := Yba.isAgg4,
  z4 := Yba.sizeOf4,
  v4 := Yba.zeroValue4,
  t5 := Yba.underlying5,
  a5 := Yba.isAgg5,
  z5 := Yba.sizeOf5,
  v5 := Yba.zeroValue5,
  t9 := Yba.underlying9,
  a9 := Yba.isAgg9,
  z9 := Yba.sizeOf9,
  v9 := Yba.zeroValue9,
  t46 := Yba.underlying56,
  a46 := Yba.isAgg56,
  z46 := Yba.sizeOf56,
  v46 := Yba.zeroValue56,
  t51 := Yba.underlying52,
  a51 := Yba.isAgg52,
  z51 := Yba.sizeOf52,
  v51 := Yba.zeroValue52,
  t146 := Yba.underlying53,
  a146 := Yba.isAgg53,
  z146 := Yba.sizeOf53,
  v146 := Yba.zeroValue53 }
def Yba.lays104_ren : Go.Shelf.Ren := ⟨fun | 104 => 18 | 211 => 23 | 207 => 27 | n => n, fun | 9 => 9 | 4 => 4 | 24 => 41 | 3 => 3 | n => n, fun n => n⟩
theorem Yba.lays104 : Lays.n104 Yba.prog Yba.lays104_ren := {
  mixed := by kernel_rfl,
  f104 := Yba.func18.trans (congrArg some (by kernel_rfl)),
  f207 := Yba.func27.trans (congrArg some (by kernel_rfl)),
  f211 := Yba.func23.trans (congrArg some (by kernel_rfl)),
  t3 := Yba.underlying3,
  a3 := Yba.isAgg3,
  z3 := Yba.sizeOf3,
  v3 := Yba.zeroValue3,
  t4 := Yba.underlying4,
  a4 := Yba.isAgg4,
  z4 := Yba.sizeOf4,
  v4 := Yba.zeroValue4,
  t9 := Yba.underlying9,
  a9 := Yba.isAgg9,
  z9 := Yba.sizeOf9,
  v9 := Yba.zeroValue9,
  t24 := Yba.underlying41,
  a24 := Yba.isAgg41,
  z24 := Yba.sizeOf41,
  v24 := Yba.zeroValue41 }
def Yba.lays99_ren : Go.Shelf.Ren := ⟨fun | 99 => 20 | 206 => 26 | n => n, fun | 9 => 9 | 4 => 4 | 3 => 3 | n => n, fun n => n⟩
theorem Yba.lays99 : Lays.n99 Yba.prog Yba.lays99_ren := {
  mixed := by kernel_rfl,
  f99 := Yba.func20.trans (congrArg some (by kernel_rfl)),
  f206 := Yba.func26.trans (congrArg some (by kernel_rfl)),
  t3 := Yba.underlying3,
  a3 := Yba.isAgg3,
  z3 := Yba.sizeOf3,
  v3 := Yba.zeroValue3,
  t4 := Yba.underlying4,
  a4 := Yba.isAgg4,
  z4 := Yba.sizeOf4,
  v4 := Yba.zeroValue4,
  t9 := Yba.underlying9,
  a9 := Yba.isAgg9,
  z9 := Yba.sizeOf9,
  v9 := Yba.zeroValue9 }
def Yba.lays100_ren : Go.Shelf.Ren := ⟨fun | 100 => 21 | 207 => 27 | n => n, fun | 9 => 9 | 4 => 4 | 3 => 3 | n => n, fun n => n⟩
theorem Yba.lays100 : Lays.n100 Yba.prog Yba.lays100_ren := {
  mixed := by kernel_rfl,
  f100 := Yba.func21.trans (congrArg some (by kernel_rfl)),
  f207 := Yba.func27.trans (congrArg some (by kernel_rfl)),
  t3 := Yba.underlying3,
  a3 := Yba.isAgg3,
  z3 := Yba.sizeOf3,
  v3 := Yba.zeroValue3,
  t4 := Yba.underlying4,
  a4 := Yba.isAgg4,
  z4 := Yba.sizeOf4,
  v4 := Yba.zeroValue4,
  t9 := Yba.underlying9,
  a9 := Yba.isAgg9,
  z9 := Yba.sizeOf9,
  v9 := Yba.zeroValue9 }

theorem Yba.strings_LastIndex (s sub : ByteArray) (hs : s.size < 4611686018427387904) (w : World) :
    Calls Yba.prog 19 #[.string s, .string sub] w fun e w' => e = .returned (.int .i64 (Lib.lastIndex s.data.toList sub.data.toList)) ∧ w' = w := Any.strings_LastIndex Yba.lays148 s sub hs w
theorem Yba.strings_HasPrefix (s p : ByteArray) (w : World) :
    Calls Yba.prog 20 #[.string s, .string p] w fun e w' => e = .returned (.bool (Lib.hasPrefix s.data.toList p.data.toList)) ∧ w' = w := Any.strings_HasPrefix Yba.lays99 s p w
theorem Yba.strings_HasSuffix (s p : ByteArray) (w : World) (hs : s.size ≤ 9223372036854775807) :
    Calls Yba.prog 21 #[.string s, .string p] w fun e w' => e = .returned (.bool (Lib.hasSuffix s.data.toList p.data.toList)) ∧ w' = w := Any.strings_HasSuffix Yba.lays100 s p w hs
theorem Yba.strings_CutSuffix (s p : ByteArray) (w : World) (hs : s.size ≤ 9223372036854775807) :
    Calls Yba.prog 18 #[.string s, .string p] w fun e w' => e = .returned (.tuple #[.string { data := (Lib.trimSuffix s.data.toList p.data.toList).toArray }, .bool (Lib.hasSuffix s.data.toList p.data.toList)]) ∧ w' = w := Any.strings_CutSuffix Yba.lays104 s p w hs
end Go.Proofs.Ybulkcsww
