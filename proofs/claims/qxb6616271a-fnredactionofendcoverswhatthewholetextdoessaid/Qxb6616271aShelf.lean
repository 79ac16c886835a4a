/-
  bytes.Index and bytes.HasPrefix at this dump, off the shelf (laid by the kit's own tool, in plain words).
-/
import Derived.Shelf.Bytes.SlIndexWhole
import Derived.Shelf.Bytes.SlSmallAll
import Derived.Shelf.LaysM
import Derived.Test.Qxb6616271aProg
namespace Go.Proofs
open Go.Shelf
def Try.lays185_ren : Go.Shelf.Ren := ⟨fun | 185 => 21 | 187 => 26 | 115 => 27 | 253 => 28 | 224 => 29 | 254 => 30 | 255 => 34 | 291 => 35 | n => n, fun | 37 => 30 | 3 => 3 | 4 => 4 | 0 => 0 | 5 => 5 | 46 => 64 | 9 => 9 | 146 => 67 | 51 => 66 | n => n, fun | 1 => 0 | n => n⟩
theorem Try.lays185 : Go.Proofs.Lays.n185 Try.prog Try.lays185_ren := {
  mixed := by kernel_rfl
  f115 := Try.func27.trans (congrArg some (by kernel_rfl))
  f185 := Try.func21.trans (congrArg some (by kernel_rfl))
  f187 := Try.func26.trans (congrArg some (by kernel_rfl))
  f224 := Try.func29.trans (congrArg some (by kernel_rfl))
  f253 := Try.func28.trans (congrArg some (by kernel_rfl))
  f254 := Try.func30.trans (congrArg some (by kernel_rfl))
  f255 := Try.func34.trans (congrArg some (by kernel_rfl))
  f291 := Try.func35.trans (congrArg some (by kernel_rfl))
  t0 := Try.underlying0
  a0 := Try.isAgg0
  z0 := Try.sizeOf0
  v0 := Try.zeroValue0
  t3 := Try.underlying3
  a3 := Try.isAgg3
  z3 := Try.sizeOf3
  v3 := Try.zeroValue3
  t4 := Try.underlying4
  a4 := Try.isAgg4
  z4 := Try.sizeOf4
  v4 := Try.zeroValue4
  t5 := Try.underlying5
  a5 := Try.isAgg5
  z5 := Try.sizeOf5
  v5 := Try.zeroValue5
  t9 := Try.underlying9
  a9 := Try.isAgg9
  z9 := Try.sizeOf9
  v9 := Try.zeroValue9
  t37 := Try.underlying30
  a37 := Try.isAgg30
  z37 := Try.sizeOf30
  v37 := Try.zeroValue30
  t46 := Try.underlying64
  a46 := Try.isAgg64
  z46 := Try.sizeOf64
  v46 := Try.zeroValue64
  t51 := Try.underlying66
  a51 := Try.isAgg66
  z51 := Try.sizeOf66
  v51 := Try.zeroValue66
  t146 := Try.underlying67
  a146 := Try.isAgg67
  z146 := Try.sizeOf67
  v146 := Try.zeroValue67
  g1 := by kernel_rfl }
theorem Try.bytes_Index_at (a1 a2 : Addr) (n c1 k c2 : Nat) (xs ys : List Int) (m : Int) (w : World) (hx : xs.length = n) (hy : ys.length = k) (hr1 : ∀ x ∈ xs, 0 ≤ x ∧ x < 256) (hr2 : ∀ y ∈ ys, 0 ≤ y ∧ y < 256) (hc1 : ∀ i, i < n → w.cell? (a1.add i) = some (.int .u8 (xs.getD i 0))) (hc2 : ∀ i, i < k → w.cell? (a2.add i) = some (.int .u8 (ys.getD i 0))) (hcap : n ≤ c1) (hs : n < 4294967281) (hk : k ≤ 9223372036854775807) (hm : w.cell? ⟨0, 0, none⟩ = some (.int .i64 m)) :
    Calls Try.prog 21 #[.slice (some a1) n c1, .slice (some a2) k c2] w fun e w' => e = .returned (.int .i64 (Lib.index (Lib.bytesOf xs) (Lib.bytesOf ys))) ∧ ∃ q, w' = w.drewN q := Any.bytes_Index_at Try.lays185 a1 a2 n c1 k c2 xs ys m w hx hy hr1 hr2 hc1 hc2 hcap hs hk hm
theorem Try.bytes_Index_nil (p2 : Option Addr) (k c2 : Nat) (w : World) (hk : k ≤ 9223372036854775807) (h1 : k = 1 → ∃ b2 o2 cv, p2 = some ⟨b2, o2, none⟩ ∧ w.cell? ⟨b2, o2, none⟩ = some (.int .u8 cv)) :
    Calls Try.prog 21 #[.slice none 0 0, .slice p2 k c2] w fun e w' => e = .returned (.int .i64 (if k = 0 then 0 else -1)) ∧ w' = w := Any.bytes_Index_nil Try.lays185 p2 k c2 w hk h1
def Try.laysM185_ren : Go.Shelf.Ren := ⟨fun | 185 => 21 | 187 => 26 | 115 => 27 | 253 => 28 | 224 => 29 | 254 => 30 | 255 => 34 | 291 => 35 | n => n, fun | 37 => 30 | 3 => 3 | 4 => 4 | 0 => 0 | 5 => 5 | 46 => 64 | 9 => 9 | 146 => 67 | 51 => 66 | n => n, fun | 1 => 0 | n => n⟩
theorem Try.laysM185 : Go.Proofs.LaysM.n185 Try.prog Try.laysM185_ren := {
  mixed := by kernel_rfl
  f115 := Try.func27.trans (congrArg some (by kernel_rfl))
  f185 := Try.func21.trans (congrArg some (by kernel_rfl))
  f187 := Try.func26.trans (congrArg some (by kernel_rfl))
  f224 := Try.func29.trans (congrArg some (by kernel_rfl))
  f253 := Try.func28.trans (congrArg some (by kernel_rfl))
  f254 := Try.func30.trans (congrArg some (by kernel_rfl))
  f255 := Try.func34.trans (congrArg some (by kernel_rfl))
  f291 := Try.func35.trans (congrArg some (by kernel_rfl))
  t0 := Try.underlying0
  a0 := Try.isAgg0
  z0 := Try.sizeOf0
  v0 := Try.zeroValue0
  t3 := Try.underlying3
  a3 := Try.isAgg3
  z3 := Try.sizeOf3
  v3 := Try.zeroValue3
  t4 := Try.underlying4
  a4 := Try.isAgg4
  z4 := Try.sizeOf4
  v4 := Try.zeroValue4
  t5 := Try.underlying5
  a5 := Try.isAgg5
  z5 := Try.sizeOf5
  v5 := Try.zeroValue5
  t9 := Try.underlying9
  a9 := Try.isAgg9
  z9 := Try.sizeOf9
  v9 := Try.zeroValue9
  t37 := Try.underlying30
  a37 := Try.isAgg30
  z37 := Try.sizeOf30
  v37 := Try.zeroValue30
  t46 := Try.underlying64
  a46 := Try.isAgg64
  z46 := Try.sizeOf64
  v46 := Try.zeroValue64
  t51 := Try.underlying66
  a51 := Try.isAgg66
  z51 := Try.sizeOf66
  v51 := Try.zeroValue66
  t146 := Try.underlying67
  a146 := Try.isAgg67
  z146 := Try.sizeOf67
  v146 := Try.zeroValue67
  g1 := by kernel_rfl
  i0 := by kernel_rfl
  i3 := by kernel_rfl
  i4 := by kernel_rfl
  i5 := by kernel_rfl
  i9 := by kernel_rfl
  i37 := by kernel_rfl
  i46 := by kernel_rfl
  i51 := by kernel_rfl
  i146 := by kernel_rfl
  m1 := by kernel_rfl
  s1_3 := fun w h => Go.Proofs.cell_of_shapedOpen_int (zero := #[.int .i64 0]) (t := 3) h (of_decide_eq_true (by kernel_rfl)) (by kernel_rfl) rfl (by kernel_rfl) (by kernel_rfl) Try.underlying3 }
def Try.laysnb116_ren : Go.Shelf.Ren := ⟨fun | 116 => 32 | 115 => 27 | n => n, fun | 37 => 30 | 4 => 4 | 3 => 3 | 9 => 9 | 5 => 5 | n => n, fun | n => n⟩
theorem Try.laysnb116 : Go.Proofs.Lays.nb116 Try.prog Try.laysnb116_ren := {
  mixed := by kernel_rfl
  f115 := Try.func27.trans (congrArg some (by kernel_rfl))
  f116 := Try.func32.trans (congrArg some (by kernel_rfl))
  t3 := Try.underlying3
  a3 := Try.isAgg3
  z3 := Try.sizeOf3
  v3 := Try.zeroValue3
  t4 := Try.underlying4
  a4 := Try.isAgg4
  z4 := Try.sizeOf4
  v4 := Try.zeroValue4
  t9 := Try.underlying9
  a9 := Try.isAgg9
  z9 := Try.sizeOf9
  v9 := Try.zeroValue9
  t37 := Try.underlying30
  a37 := Try.isAgg30
  z37 := Try.sizeOf30
  v37 := Try.zeroValue30
  t5 := Try.underlying5
  a5 := Try.isAgg5
  z5 := Try.sizeOf5
  v5 := Try.zeroValue5 }
theorem Try.bytes_HasPrefix_all (p1 p2 : Option Addr) (n c m d : Nat) (xs ys : List Int) (w : World) (hx : xs.length = n) (hy : ys.length = m) (hnc : n ≤ c) (h1 : Lib.BytesIn w p1 n xs) (h2 : Lib.BytesIn w p2 m ys) :
    Calls Try.prog 32 #[.slice p1 n c, .slice p2 m d] w fun e w' => e = .returned (.bool (Lib.hasPrefix (Lib.bytesOf xs) (Lib.bytesOf ys))) ∧ w' = w := Any.bytes_HasPrefix_all Try.laysnb116 p1 p2 n c m d xs ys w hx hy hnc h1 h2
end Go.Proofs
