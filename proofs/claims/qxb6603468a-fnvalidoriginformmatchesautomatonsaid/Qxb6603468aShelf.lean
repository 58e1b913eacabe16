import Derived.Shelf.Strings.Search1
import Derived.Shelf.Strings.Search2
import Derived.Shelf.Strings.Prefix
import Derived.Test.Qxb6603468aProg
namespace Go.Proofs
open Go.Shelf
def Try.lays219_ren : Go.Shelf.Ren := ⟨fun | 219 => 34 | 217 => 35 | 225 => 36 | 224 => 37 | 267 => 38 | 266 => 39 | 314 => 40 | n => n, fun | 9 => 9 | 3 => 3 | 4 => 4 | 5 => 5 | 46 => 36 | 146 => 38 | 51 => 37 | n => n, fun | 1 => 0 | n => n⟩
theorem Try.lays219 : Go.Proofs.Lays.n219 Try.prog Try.lays219_ren := {
  mixed := by kernel_rfl
  f217 := Try.func35.trans (congrArg some (by kernel_rfl))
  f219 := Try.func34.trans (congrArg some (by kernel_rfl))
  f224 := Try.func37.trans (congrArg some (by kernel_rfl))
  f225 := Try.func36.trans (congrArg some (by kernel_rfl))
  f266 := Try.func39.trans (congrArg some (by kernel_rfl))
  f267 := Try.func38.trans (congrArg some (by kernel_rfl))
  f314 := Try.func40.trans (congrArg some (by kernel_rfl))
  t3 := Try.underlying3
  a3 := Try.isAgg3
  z3 := Try.sizeOf3
  v3 := Try.zeroValue3
  t4 := Try.underlying4
  a4 := Try.isAgg4
  z4 := Try.sizeOf4
  v4 := Try.zeroValue4
  t5 := Try.underlying5
  a5 := Try.isAgg5
  z5 := Try.sizeOf5
  v5 := Try.zeroValue5
  t9 := Try.underlying9
  a9 := Try.isAgg9
  z9 := Try.sizeOf9
  v9 := Try.zeroValue9
  t46 := Try.underlying36
  a46 := Try.isAgg36
  z46 := Try.sizeOf36
  v46 := Try.zeroValue36
  t51 := Try.underlying37
  a51 := Try.isAgg37
  z51 := Try.sizeOf37
  v51 := Try.zeroValue37
  t146 := Try.underlying38
  a146 := Try.isAgg38
  z146 := Try.sizeOf38
  v146 := Try.zeroValue38
  g1 := by kernel_rfl }
theorem Try.stringslite_Index_one (s : ByteArray) (c : UInt8) (w : World) :
    Calls Try.prog 34 #[.string s, .string ⟨#[c]⟩] w fun e w' => e = .returned (.int .i64 (Lib.indexByte s.data.toList c)) ∧ w' = w := Any.stringslite_Index_one Try.lays219 s c w
def Try.lays206_ren : Go.Shelf.Ren := ⟨fun | 206 => 32 | n => n, fun | 9 => 9 | 4 => 4 | 3 => 3 | n => n, fun | n => n⟩
theorem Try.lays206 : Go.Proofs.Lays.n206 Try.prog Try.lays206_ren := {
  mixed := by kernel_rfl
  f206 := Try.func32.trans (congrArg some (by kernel_rfl))
  t3 := Try.underlying3
  a3 := Try.isAgg3
  z3 := Try.sizeOf3
  v3 := Try.zeroValue3
  t4 := Try.underlying4
  a4 := Try.isAgg4
  z4 := Try.sizeOf4
  v4 := Try.zeroValue4
  t9 := Try.underlying9
  a9 := Try.isAgg9
  z9 := Try.sizeOf9
  v9 := Try.zeroValue9 }
def Try.lays99_ren : Go.Shelf.Ren := ⟨fun | 99 => 28 | 206 => 32 | n => n, fun | 9 => 9 | 4 => 4 | 3 => 3 | n => n, fun | n => n⟩
theorem Try.lays99 : Go.Proofs.Lays.n99 Try.prog Try.lays99_ren := {
  mixed := by kernel_rfl
  f99 := Try.func28.trans (congrArg some (by kernel_rfl))
  f206 := Try.func32.trans (congrArg some (by kernel_rfl))
  t3 := Try.underlying3
  a3 := Try.isAgg3
  z3 := Try.sizeOf3
  v3 := Try.zeroValue3
  t4 := Try.underlying4
  a4 := Try.isAgg4
  z4 := Try.sizeOf4
  v4 := Try.zeroValue4
  t9 := Try.underlying9
  a9 := Try.isAgg9
  z9 := Try.sizeOf9
  v9 := Try.zeroValue9 }
theorem Try.strings_HasPrefix (s p : ByteArray) (w : World) :
    Calls Try.prog 28 #[.string s, .string p] w fun e w' => e = .returned (.bool (Lib.hasPrefix s.data.toList p.data.toList)) ∧ w' = w := Any.strings_HasPrefix Try.lays99 s p w
end Go.Proofs
