/-
  'run', at its two function values: isBlank and lineEnd's own literal.
-/
import Derived.Test.Qxb6616246aLeaf
namespace Go.Proofs.Qxb6616246a
set_option linter.unusedVariables false
open Go.RowKit
theorem run_step' {p : UInt8 → Bool} (s : ByteArray) {k : Nat} (h : k < s.size) (hp : p s[k] = true) : runTo p s.data.toList k = runTo p s.data.toList (k + 1) :=
  runTo_step (by rw [← Lib.size_eq]; exact h) hp
theorem run_stop' {p : UInt8 → Bool} (s : ByteArray) {k : Nat} (h : k < s.size) (hp : p s[k] = false) : runTo p s.data.toList k = k :=
  runTo_stop (by rw [← Lib.size_eq]; exact h) hp
theorem run_end' {p : UInt8 → Bool} (s : ByteArray) {k : Nat} (h : s.size ≤ k) : runTo p s.data.toList k = k :=
  runTo_end (by rw [← Lib.size_eq]; exact h)
theorem run_le' {p : UInt8 → Bool} (s : ByteArray) {k : Nat} (h : k ≤ s.size) : runTo p s.data.toList k ≤ s.size := by
  rw [Lib.size_eq] at h ⊢; exact runTo_le p _ k h
set_option maxHeartbeats 400000 in
theorem run_blank (s : ByteArray) (i : Nat) (w : World) (hs : s.size ≤ 1000000000) (hi : i ≤ 1000000001) :
    Calls Try.prog 30 #[.string s, .int .i64 i, .func (.func 31) #[] #[]] w fun e w' => e = .returned (.int .i64 (runTo blank s.data.toList i : Nat)) ∧ w' = w := by
  obtain ⟨R, hR⟩ : ∃ R, R = runTo blank s.data.toList i := ⟨_, rfl⟩
  rw [← hR]
  go_enter Try.func30, Try.ntmps30
  go_wp2
  go_loop [1] (fun j => ∃ k : Nat, i ≤ k ∧ (k ≤ i ∨ k ≤ s.size) ∧ j = .int .i64 k ∧ Hid (R = runTo blank s.data.toList k)) (fun j => s.size - (intOf j).toNat)
  case atStart => exact ⟨i, by omega, by omega, rfl, hR⟩
  case round =>
    clear hR
    obtain ⟨k, hk, hk2, rfl, HR⟩ := hrel
    by_cases hlt : k < s.size
    · by_cases hp : blank s[k] = true
      · go_wp2_with (go_at_call 31; refine (isBlank_any _ _).mono ?_; rintro e w' ⟨rfl, rfl⟩)
        go_round
        case rel => exact ⟨k + 1, by omega, by omega, by go_num, by rw [HR.out]; exact run_step' s hlt hp⟩
        case measure => simp [intOf]; omega
      · have hp' : blank s[k] = false := by simpa using hp
        clear hp
        go_wp2_with (go_at_call 31; refine (isBlank_any _ _).mono ?_; rintro e w' ⟨rfl, rfl⟩)
        go_ret
        exact ⟨ret_int (by rw [HR.out, run_stop' s hlt hp']), rfl⟩
    · go_wp2
      go_ret
      exact ⟨ret_int (by rw [HR.out, run_end' s (by omega)]), rfl⟩
set_option maxHeartbeats 400000 in
theorem run_lend (s : ByteArray) (i : Nat) (w : World) (hs : s.size ≤ 1000000000) (hi : i ≤ 1000000001) :
    Calls Try.prog 30 #[.string s, .int .i64 i, .func (.func 42) #[] #[]] w fun e w' => e = .returned (.int .i64 (runTo notLend s.data.toList i : Nat)) ∧ w' = w := by
  obtain ⟨R, hR⟩ : ∃ R, R = runTo notLend s.data.toList i := ⟨_, rfl⟩
  rw [← hR]
  go_enter Try.func30, Try.ntmps30
  go_wp2
  go_loop [1] (fun j => ∃ k : Nat, i ≤ k ∧ (k ≤ i ∨ k ≤ s.size) ∧ j = .int .i64 k ∧ Hid (R = runTo notLend s.data.toList k)) (fun j => s.size - (intOf j).toNat)
  case atStart => exact ⟨i, by omega, by omega, rfl, hR⟩
  case round =>
    clear hR
    obtain ⟨k, hk, hk2, rfl, HR⟩ := hrel
    by_cases hlt : k < s.size
    · by_cases hp : notLend s[k] = true
      · go_wp2_with (go_at_call 42; refine (notLineEnd_any _ _).mono ?_; rintro e w' ⟨rfl, rfl⟩)
        go_round
        case rel => exact ⟨k + 1, by omega, by omega, by go_num, by rw [HR.out]; exact run_step' s hlt hp⟩
        case measure => simp [intOf]; omega
      · have hp' : notLend s[k] = false := by simpa using hp
        clear hp
        go_wp2_with (go_at_call 42; refine (notLineEnd_any _ _).mono ?_; rintro e w' ⟨rfl, rfl⟩)
        go_ret
        exact ⟨ret_int (by rw [HR.out, run_stop' s hlt hp']), rfl⟩
    · go_wp2
      go_ret
      exact ⟨ret_int (by rw [HR.out, run_end' s (by omega)]), rfl⟩
set_option maxHeartbeats 400000 in
theorem lineEnd_any (s : ByteArray) (i : Nat) (w : World) (hs : s.size ≤ 1000000000) (hi : i ≤ 1000000001) :
    Calls Try.prog 34 #[.string s, .int .i64 i] w fun e w' => e = .returned (.int .i64 (runTo notLend s.data.toList i : Nat)) ∧ w' = w := by
  go_enter Try.func34, Try.ntmps34
  go_wp2_with (go_at_call 30; refine (run_lend _ _ _ (by assumption) (by assumption)).mono ?_; rintro e w' ⟨rfl, rfl⟩)
  go_ret
  exact ⟨rfl, rfl⟩
end Go.Proofs.Qxb6616246a
