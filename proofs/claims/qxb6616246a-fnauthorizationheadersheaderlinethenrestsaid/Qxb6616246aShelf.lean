/-
  strings.Index at this dump, off the shelf (laid by the kit's own tool, in plain words).
-/
import Derived.Shelf.Strings.Search3
import Derived.Shelf.LaysM
import Derived.Test.Qxb6616246aProg
namespace Go.Proofs
open Go.Shelf
def Try.lays143_ren : Go.Shelf.Ren := ⟨fun | 143 => 37 | 219 => 45 | 217 => 50 | 225 => 51 | 224 => 52 | 267 => 53 | 266 => 56 | 314 => 57 | n => n, fun | 9 => 9 | 3 => 3 | 4 => 4 | 5 => 5 | 46 => 59 | 146 => 61 | 51 => 60 | n => n, fun | 1 => 0 | n => n⟩
theorem Try.lays143 : Go.Proofs.Lays.n143 Try.prog Try.lays143_ren := {
  mixed := by kernel_rfl
  f143 := Try.func37.trans (congrArg some (by kernel_rfl))
  f217 := Try.func50.trans (congrArg some (by kernel_rfl))
  f219 := Try.func45.trans (congrArg some (by kernel_rfl))
  f224 := Try.func52.trans (congrArg some (by kernel_rfl))
  f225 := Try.func51.trans (congrArg some (by kernel_rfl))
  f266 := Try.func56.trans (congrArg some (by kernel_rfl))
  f267 := Try.func53.trans (congrArg some (by kernel_rfl))
  f314 := Try.func57.trans (congrArg some (by kernel_rfl))
  t3 := Try.underlying3
  a3 := Try.isAgg3
  z3 := Try.sizeOf3
  v3 := Try.zeroValue3
  t4 := Try.underlying4
  a4 := Try.isAgg4
  z4 := Try.sizeOf4
  v4 := Try.zeroValue4
  t5 := Try.underlying5
  a5 := Try.isAgg5
  z5 := Try.sizeOf5
  v5 := Try.zeroValue5
  t9 := Try.underlying9
  a9 := Try.isAgg9
  z9 := Try.sizeOf9
  v9 := Try.zeroValue9
  t46 := Try.underlying59
  a46 := Try.isAgg59
  z46 := Try.sizeOf59
  v46 := Try.zeroValue59
  t51 := Try.underlying60
  a51 := Try.isAgg60
  z51 := Try.sizeOf60
  v51 := Try.zeroValue60
  t146 := Try.underlying61
  a146 := Try.isAgg61
  z146 := Try.sizeOf61
  v146 := Try.zeroValue61
  g1 := by kernel_rfl }
theorem Try.strings_Index (s sub : ByteArray) (m : Int) (w : World) (hs : s.size < 4294967281) (hm : w.cell? ⟨0, 0, none⟩ = some (.int .i64 m)) :
    Calls Try.prog 37 #[.string s, .string sub] w fun e w' => e = .returned (.int .i64 (Lib.index s.data.toList sub.data.toList)) ∧ w' = w := Any.strings_Index Try.lays143 s sub m w hs hm
def Try.laysM143_ren : Go.Shelf.Ren := ⟨fun | 143 => 37 | 219 => 45 | 217 => 50 | 225 => 51 | 224 => 52 | 267 => 53 | 266 => 56 | 314 => 57 | n => n, fun | 9 => 9 | 3 => 3 | 4 => 4 | 5 => 5 | 46 => 59 | 146 => 61 | 51 => 60 | n => n, fun | 1 => 0 | n => n⟩
theorem Try.laysM143 : Go.Proofs.LaysM.n143 Try.prog Try.laysM143_ren := {
  mixed := by kernel_rfl
  f143 := Try.func37.trans (congrArg some (by kernel_rfl))
  f217 := Try.func50.trans (congrArg some (by kernel_rfl))
  f219 := Try.func45.trans (congrArg some (by kernel_rfl))
  f224 := Try.func52.trans (congrArg some (by kernel_rfl))
  f225 := Try.func51.trans (congrArg some (by kernel_rfl))
  f266 := Try.func56.trans (congrArg some (by kernel_rfl))
  f267 := Try.func53.trans (congrArg some (by kernel_rfl))
  f314 := Try.func57.trans (congrArg some (by kernel_rfl))
  t3 := Try.underlying3
  a3 := Try.isAgg3
  z3 := Try.sizeOf3
  v3 := Try.zeroValue3
  t4 := Try.underlying4
  a4 := Try.isAgg4
  z4 := Try.sizeOf4
  v4 := Try.zeroValue4
  t5 := Try.underlying5
  a5 := Try.isAgg5
  z5 := Try.sizeOf5
  v5 := Try.zeroValue5
  t9 := Try.underlying9
  a9 := Try.isAgg9
  z9 := Try.sizeOf9
  v9 := Try.zeroValue9
  t46 := Try.underlying59
  a46 := Try.isAgg59
  z46 := Try.sizeOf59
  v46 := Try.zeroValue59
  t51 := Try.underlying60
  a51 := Try.isAgg60
  z51 := Try.sizeOf60
  v51 := Try.zeroValue60
  t146 := Try.underlying61
  a146 := Try.isAgg61
  z146 := Try.sizeOf61
  v146 := Try.zeroValue61
  g1 := by kernel_rfl
  i3 := by kernel_rfl
  i4 := by kernel_rfl
  i5 := by kernel_rfl
  i9 := by kernel_rfl
  i46 := by kernel_rfl
  i51 := by kernel_rfl
  i146 := by kernel_rfl
  m1 := by kernel_rfl
  s1_3 := fun w h => Go.Proofs.cell_of_shapedOpen_int (zero := #[.int .i64 0]) (t := 3) h (of_decide_eq_true (by kernel_rfl)) (by kernel_rfl) rfl (by kernel_rfl) (by kernel_rfl) Try.underlying3 }
end Go.Proofs
