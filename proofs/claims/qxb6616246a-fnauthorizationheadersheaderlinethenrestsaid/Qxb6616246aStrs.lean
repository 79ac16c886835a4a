/-
  Two of the library's small functions at this dump: strings.IndexByte, strings.HasPrefix.
-/
import Derived.Test.Qxb6616246aRun
import Derived.Lib.Walk
import Derived.Lib.Bytealg
import Derived.Lib.IndexBytes
namespace Go.Proofs.Qxb6616246a
set_option linter.unusedVariables false
open Go.RowKit
set_option maxHeartbeats 400000 in
theorem lite_IndexByte (s : ByteArray) (c : Int) (w : World) :
    Calls Try.prog 50 #[.string s, .int .u8 c] w fun e w' => e = .returned (.int .i64 (Lib.indexByte s.data.toList c.toNat.toUInt8)) ∧ w' = w := by
  go_enter Try.func50, Try.ntmps50
  go_wp2
  rw [run_callFunc_extern Try.func56 (by kernel_rfl) (by kernel_rfl) (by kernel_rfl) (e := Extern.BytealgIndexByte.indexByte) (by kernel_rfl), Lib.run_indexByteString]
  simp only [Result.andThen]
  rw [Oper.upon_value]
  go_wp2
  go_ret
  exact ⟨rfl, rfl⟩
set_option maxHeartbeats 400000 in
theorem strings_IndexByte (s : ByteArray) (c : UInt8) (w : World) :
    Calls Try.prog 49 #[.string s, .int .u8 (c.toNat : Int)] w fun e w' => e = .returned (.int .i64 (Lib.indexByte s.data.toList c)) ∧ w' = w := by
  go_enter Try.func49, Try.ntmps49
  go_wp2_with (go_at_call 50; refine (lite_IndexByte _ _ _).mono ?_; rintro e w' ⟨rfl, rfl⟩)
  go_ret
  exact ⟨rfl, rfl⟩
set_option maxHeartbeats 400000 in
theorem lite_HasPrefix (s p : ByteArray) (w : World) :
    Calls Try.prog 46 #[.string s, .string p] w fun e w' => e = .returned (.bool (Lib.hasPrefix s.data.toList p.data.toList)) ∧ w' = w := by
  rw [← Lib.hasPrefix_of_take, ← Lib.size_eq, ← Lib.size_eq]
  go_enter Try.func46, Try.ntmps46
  go_wp2
  · rename_i h
    go_ret
    refine ⟨?_, rfl⟩
    show Ending.returned (Value.bool ((s.extract 0 p.size).toList == p.toList)) = _
    rw [Lib.extract_toList, Lib.toList_data]
    simp [h]
  · rename_i h
    go_ret
    refine ⟨?_, rfl⟩
    show Ending.returned (Value.bool false) = _
    simp [h]
set_option maxHeartbeats 400000 in
theorem strings_HasPrefix (s p : ByteArray) (w : World) :
    Calls Try.prog 38 #[.string s, .string p] w fun e w' => e = .returned (.bool (Lib.hasPrefix s.data.toList p.data.toList)) ∧ w' = w := by
  go_enter Try.func38, Try.ntmps38
  go_wp2_with (go_at_call 46; refine (lite_HasPrefix _ _ _).mono ?_; rintro e w' ⟨rfl, rfl⟩)
  go_ret
  exact ⟨rfl, rfl⟩
/-- strings.HasPrefix of what stands from place k on. -/
theorem prefixAt (s p : ByteArray) (k : Nat) (w : World) :
    Calls Try.prog 38 #[.string (s.extract k s.size), .string p] w fun e w' => e = .returned (.bool (sw s.data.toList k p.data.toList)) ∧ w' = w := by
  have h := strings_HasPrefix (s.extract k s.size) p w
  rw [Lib.extract_to_end] at h
  exact h
end Go.Proofs.Qxb6616246a
