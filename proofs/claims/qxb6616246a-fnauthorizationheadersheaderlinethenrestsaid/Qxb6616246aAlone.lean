/-
  namedAlone.
-/
import Derived.Test.Qxb6616246aJoins
import Derived.Deep.QuietTactic
import Derived.BigQuiet
namespace Go.Proofs.Qxb6616246a
set_option linter.unusedVariables false
open Go.RowKit
theorem getD_at (s : ByteArray) {k : Nat} (h : k < s.size) : s.data.toList.getD k 0 = s[k] := by
  rw [List.getD, at_some s h]; rfl
set_option maxHeartbeats 1000000 in
theorem alone_any (s : ByteArray) (st en : Nat) (w : World) (hs : s.size ≤ 1000000000) (hst : st ≤ s.size) (hen : en < s.size) :
    Calls Try.prog 39 #[.string s, .int .i64 st, .int .i64 en] w fun e w' => e = .returned (.bool (aloneAt s.data.toList st s[en])) ∧ ∃ n, w' = w.drewN n := by
  obtain ⟨B, hB⟩ : ∃ B, B = aloneAt s.data.toList st s[en] := ⟨_, rfl⟩
  rw [← hB]
  go_enter Try.func39, Try.ntmps39
  go_wp2
  go_loop [1] (fun j => ∃ k : Nat, k ≤ st ∧ j = .int .i64 k ∧ Hid (B = aloneB s.data.toList s[en] (backTo s.data.toList k))) (fun j => (intOf j).toNat)
  case atStart => exact ⟨st, by omega, rfl, hB⟩
  case round =>
    clear hB
    obtain ⟨k, hk, rfl, HB⟩ := hrel
    cases k with
    | zero =>
      have hd : decide ((0 : Int) < 0) = false := by decide
      go_wp2
      go_quiet (fail)
      go_wp2
      go_ret
      exact ⟨ret_bool HB.out.symm, _, rfl⟩
    | succ k =>
      have hlt : k < s.size := by omega
      have e1 : ((k + 1 : Nat) : Int) - 1 = (k : Int) := by omega
      by_cases hp : nameCh s[k] = true
      · have H1 : Hid (backTo s.data.toList (k + 1) = backTo s.data.toList k) := by
          show _ = _
          rw [backTo, getD_at s hlt, if_pos hp]
        go_wp2_with (go_at_call 47; refine (isNameChar_any _ _).mono ?_; rintro e w' ⟨rfl, rfl⟩)
        go_round
        case rel => exact ⟨k, by omega, rfl, by rw [HB.out, H1.out]; exact rfl⟩
        case measure => simp [intOf]
      · have hp' : nameCh s[k] = false := by simpa using hp
        have HB2 : Hid (B = ((s[k].toNat : Int) == (s[en].toNat : Int))) := by
          show _ = _
          rw [HB.out, backTo, getD_at s hlt, if_neg hp, toNat_beq, aloneB, getD_at s hlt]
        clear HB hp
        go_wp2_with (go_at_call 47; refine (isNameChar_any _ _).mono ?_; rintro e w' ⟨rfl, rfl⟩)
        go_quiet (fail)
        go_wp2
        go_ret
        exact ⟨ret_bool HB2.out.symm, _, rfl⟩
end Go.Proofs.Qxb6616246a
