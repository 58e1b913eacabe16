import Derived.Shelf.Strings.Search1
import Derived.Shelf.Strings.Search2
import Derived.Test.Qxb6604044aProg
namespace Go.Proofs
open Go.Shelf
def Try.lays219_ren : Go.Shelf.Ren := ⟨fun | 219 => 22 | 217 => 23 | 225 => 24 | 224 => 25 | 267 => 26 | 266 => 27 | 314 => 28 | n => n, fun | 9 => 9 | 3 => 3 | 4 => 4 | 5 => 5 | 46 => 33 | 146 => 35 | 51 => 34 | n => n, fun | 1 => 0 | n => n⟩
theorem Try.lays219 : Go.Proofs.Lays.n219 Try.prog Try.lays219_ren := {
  mixed := by kernel_rfl
  f217 := Try.func23.trans (congrArg some (by kernel_rfl))
  f219 := Try.func22.trans (congrArg some (by kernel_rfl))
  f224 := Try.func25.trans (congrArg some (by kernel_rfl))
  f225 := Try.func24.trans (congrArg some (by kernel_rfl))
  f266 := Try.func27.trans (congrArg some (by kernel_rfl))
  f267 := Try.func26.trans (congrArg some (by kernel_rfl))
  f314 := Try.func28.trans (congrArg some (by kernel_rfl))
  t3 := Try.underlying3
  a3 := Try.isAgg3
  z3 := Try.sizeOf3
  v3 := Try.zeroValue3
  t4 := Try.underlying4
  a4 := Try.isAgg4
  z4 := Try.sizeOf4
  v4 := Try.zeroValue4
  t5 := Try.underlying5
  a5 := Try.isAgg5
  z5 := Try.sizeOf5
  v5 := Try.zeroValue5
  t9 := Try.underlying9
  a9 := Try.isAgg9
  z9 := Try.sizeOf9
  v9 := Try.zeroValue9
  t46 := Try.underlying33
  a46 := Try.isAgg33
  z46 := Try.sizeOf33
  v46 := Try.zeroValue33
  t51 := Try.underlying34
  a51 := Try.isAgg34
  z51 := Try.sizeOf34
  v51 := Try.zeroValue34
  t146 := Try.underlying35
  a146 := Try.isAgg35
  z146 := Try.sizeOf35
  v146 := Try.zeroValue35
  g1 := by kernel_rfl }
theorem Try.stringslite_Index_one (s : ByteArray) (c : UInt8) (w : World) :
    Calls Try.prog 22 #[.string s, .string ⟨#[c]⟩] w fun e w' => e = .returned (.int .i64 (Lib.indexByte s.data.toList c)) ∧ w' = w := Any.stringslite_Index_one Try.lays219 s c w
end Go.Proofs
