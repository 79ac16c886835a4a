/-
  strings.IndexByte and strings.Count at one byte, at this dump, off the shelf (laid by the kit's own tool, in plain words).
-/
import Derived.Shelf.Small.Strs
import Derived.Shelf.Strings.Search1
import Derived.Shelf.Strings.Search2
import Derived.Shelf.Strings.Search3
import Derived.Shelf.Strings.Count
import Derived.Shelf.LaysM
import Derived.Shelf.Strings.Shaped
import Derived.Shelf.Strings.Split
import Derived.Test.Qxb6616084aProg
namespace Go.Proofs
open Go.Shelf
def Try.lays137_ren : Go.Shelf.Ren := ⟨fun | 137 => 26 | 217 => 31 | 266 => 34 | n => n, fun | 9 => 9 | 5 => 5 | 3 => 3 | n => n, fun | n => n⟩
theorem Try.lays137 : Go.Proofs.Lays.n137 Try.prog Try.lays137_ren := {
  mixed := by kernel_rfl
  f137 := Try.func26.trans (congrArg some (by kernel_rfl))
  f217 := Try.func31.trans (congrArg some (by kernel_rfl))
  f266 := Try.func34.trans (congrArg some (by kernel_rfl))
  t3 := Try.underlying3
  a3 := Try.isAgg3
  z3 := Try.sizeOf3
  v3 := Try.zeroValue3
  t5 := Try.underlying5
  a5 := Try.isAgg5
  z5 := Try.sizeOf5
  v5 := Try.zeroValue5
  t9 := Try.underlying9
  a9 := Try.isAgg9
  z9 := Try.sizeOf9
  v9 := Try.zeroValue9 }
theorem Try.strings_IndexByte (s : ByteArray) (c : Int) (w : World) :
    Calls Try.prog 26 #[.string s, .int .u8 c] w fun e w' => e = .returned (.int .i64 (Lib.indexByte s.data.toList c.toNat.toUInt8)) ∧ w' = w := Any.strings_IndexByte Try.lays137 s c w
def Try.lays138_ren : Go.Shelf.Ren := ⟨fun | 138 => 25 | 195 => 28 | 218 => 29 | 143 => 30 | 219 => 33 | 217 => 31 | 225 => 35 | 224 => 36 | 267 => 37 | 266 => 34 | 314 => 38 | n => n, fun | 9 => 9 | 3 => 3 | 4 => 4 | 5 => 5 | 0 => 0 | 46 => 75 | 146 => 77 | 51 => 76 | n => n, fun | 1 => 0 | n => n⟩
theorem Try.lays138 : Go.Proofs.Lays.n138 Try.prog Try.lays138_ren := {
  mixed := by kernel_rfl
  f138 := Try.func25.trans (congrArg some (by kernel_rfl))
  f143 := Try.func30.trans (congrArg some (by kernel_rfl))
  f195 := Try.func28.trans (congrArg some (by kernel_rfl))
  f217 := Try.func31.trans (congrArg some (by kernel_rfl))
  f218 := Try.func29.trans (congrArg some (by kernel_rfl))
  f219 := Try.func33.trans (congrArg some (by kernel_rfl))
  f224 := Try.func36.trans (congrArg some (by kernel_rfl))
  f225 := Try.func35.trans (congrArg some (by kernel_rfl))
  f266 := Try.func34.trans (congrArg some (by kernel_rfl))
  f267 := Try.func37.trans (congrArg some (by kernel_rfl))
  f314 := Try.func38.trans (congrArg some (by kernel_rfl))
  t0 := Try.underlying0
  a0 := Try.isAgg0
  z0 := Try.sizeOf0
  v0 := Try.zeroValue0
  t3 := Try.underlying3
  a3 := Try.isAgg3
  z3 := Try.sizeOf3
  v3 := Try.zeroValue3
  t4 := Try.underlying4
  a4 := Try.isAgg4
  z4 := Try.sizeOf4
  v4 := Try.zeroValue4
  t5 := Try.underlying5
  a5 := Try.isAgg5
  z5 := Try.sizeOf5
  v5 := Try.zeroValue5
  t9 := Try.underlying9
  a9 := Try.isAgg9
  z9 := Try.sizeOf9
  v9 := Try.zeroValue9
  t46 := Try.underlying75
  a46 := Try.isAgg75
  z46 := Try.sizeOf75
  v46 := Try.zeroValue75
  t51 := Try.underlying76
  a51 := Try.isAgg76
  z51 := Try.sizeOf76
  v51 := Try.zeroValue76
  t146 := Try.underlying77
  a146 := Try.isAgg77
  z146 := Try.sizeOf77
  v146 := Try.zeroValue77
  g1 := by kernel_rfl }
theorem Try.strings_Count_one (s : ByteArray) (c : UInt8) (w : World) :
    Calls Try.prog 25 #[.string s, .string ⟨#[c]⟩] w fun e w' => e = .returned (.int .i64 (Lib.countByte s.data.toList c)) ∧ w' = w := Any.strings_Count_one Try.lays138 s c w
end Go.Proofs
