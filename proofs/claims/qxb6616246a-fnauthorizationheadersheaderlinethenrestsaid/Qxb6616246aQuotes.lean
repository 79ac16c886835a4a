/-
  closingQuote, joinsText, quotedValueEnd.
-/
import Derived.Test.Qxb6616246aRun
namespace Go.Proofs.Qxb6616246a
set_option linter.unusedVariables false
open Go.RowKit
theorem len_eq (s : ByteArray) : s.data.toList.length = s.size := (Lib.size_eq s).symm
theorem cq_end' {q : UInt8} (s : ByteArray) {k : Nat} (h : s.size ≤ k) : cqTo q s.data.toList k = k := cqTo_end (by rw [len_eq]; exact h)
theorem cq_stop' {q : UInt8} (s : ByteArray) {k : Nat} (h : k < s.size) (hc : (s[k] == q || lend s[k]) = true) : cqTo q s.data.toList k = k := cqTo_stop (by rw [len_eq]; exact h) hc
theorem cq_two' {q : UInt8} (s : ByteArray) {k : Nat} (h : k + 1 < s.size) (hc : (s[k] == q || lend s[k]) = false) (h92 : (s[k] == 92) = true) (hn : notLend s[k + 1] = true) : cqTo q s.data.toList k = cqTo q s.data.toList (k + 2) :=
  cqTo_two (by rw [len_eq]; exact h) hc h92 hn
theorem cq_one' {q : UInt8} (s : ByteArray) {k : Nat} (h : k < s.size) (hc : (s[k] == q || lend s[k]) = false) (hn : (s[k] == 92) = true → ∀ h1 : k + 1 < s.size, notLend s[k + 1] = false) : cqTo q s.data.toList k = cqTo q s.data.toList (k + 1) :=
  cqTo_one (by rw [len_eq]; exact h) hc fun h9 h1 => hn h9 (by rw [len_eq] at h1; exact h1)
theorem toNat_beq (a b : UInt8) : ((a.toNat : Int) == (b.toNat : Int)) = (a == b) := by
  rw [Bool.eq_iff_iff]; simp [← UInt8.toNat_inj]; omega
theorem toNat_bne (a b : UInt8) : ((a.toNat : Int) != (b.toNat : Int)) = !(a == b) := by
  rw [bne, toNat_beq]
theorem beq92 (a : UInt8) : ((a.toNat : Int) == 92) = (a == 92) := toNat_beq a 92
set_option maxHeartbeats 1000000 in
theorem closingQuote_any (s : ByteArray) (i : Nat) (w : World) (hs : s.size ≤ 1000000000) (hi : i < s.size) :
    Calls Try.prog 40 #[.string s, .int .i64 i] w fun e w' => e = .returned (.int .i64 (cqTo s[i] s.data.toList (i + 1) : Nat)) ∧ w' = w := by
  obtain ⟨R, hR⟩ : ∃ R, R = cqTo s[i] s.data.toList (i + 1) := ⟨_, rfl⟩
  rw [← hR]
  go_enter Try.func40, Try.ntmps40
  go_wp2
  go_loop [6] (fun j => ∃ k : Nat, i < k ∧ k ≤ s.size ∧ j = .int .i64 k ∧ Hid (R = cqTo s[i] s.data.toList k)) (fun j => s.size - (intOf j).toNat)
  case atStart => exact ⟨i + 1, by omega, by omega, by go_num, hR⟩
  case round =>
    clear hR
    obtain ⟨k, hk, hk2, rfl, HR⟩ := hrel
    by_cases hlt : k < s.size
    · have hb := toNat_bne s[k] s[i]
      by_cases hq : (s[k] == s[i]) = true
      · rw [hq] at hb
        simp only [Bool.not_true] at hb
        go_wp2
        go_ret
        exact ⟨ret_int (by rw [HR.out, cq_stop' s hlt (by rw [hq]; rfl)]), rfl⟩
      · have hq' : (s[k] == s[i]) = false := by simpa using hq
        rw [hq'] at hb
        simp only [Bool.not_false] at hb
        have HQ : Hid ((s[k] == s[i]) = false) := hq'
        clear hq hq'
        by_cases hl : lend s[k] = true
        · go_wp2_with (go_at_call 43; refine (isLineEnd_any _ _).mono ?_; rintro e w' ⟨rfl, rfl⟩)
          go_ret
          exact ⟨ret_int (by rw [HR.out, cq_stop' s hlt (by rw [hl]; simp)]), rfl⟩
        · have hl' : lend s[k] = false := by simpa using hl
          clear hl
          have HC : Hid ((s[k] == s[i] || lend s[k]) = false) := by show _ = _; rw [HQ.out, hl']; rfl
          have b92 := beq92 s[k]
          by_cases h9 : (s[k] == 92) = true
          · by_cases h1 : k + 1 < s.size
            · by_cases hn : lend s[k + 1] = true
              · have H1 : Hid (cqTo s[i] s.data.toList k = cqTo s[i] s.data.toList (k + 1)) := cq_one' s hlt HC.out fun _ _ => by unfold notLend; rw [hn]; rfl
                rw [h9] at b92
                clear h9
                go_wp2_with (go_at_call 43; refine (isLineEnd_any _ _).mono ?_; rintro e w' ⟨rfl, rfl⟩)
                go_round
                case rel => exact ⟨k + 1, by omega, by omega, by go_num, by rw [HR.out]; exact H1.out⟩
                case measure => simp [intOf]; omega
              · have hn' : lend s[k + 1] = false := by simpa using hn
                have H1 : Hid (cqTo s[i] s.data.toList k = cqTo s[i] s.data.toList (k + 2)) := cq_two' s h1 HC.out h9 (by unfold notLend; rw [hn']; rfl)
                rw [h9] at b92
                clear h9 hn
                go_wp2_with (go_at_call 43; refine (isLineEnd_any _ _).mono ?_; rintro e w' ⟨rfl, rfl⟩)
                go_round
                case rel => exact ⟨k + 2, by omega, by omega, by go_num, by rw [HR.out]; exact H1.out⟩
                case measure => simp [intOf]; omega
            · have H1 : Hid (cqTo s[i] s.data.toList k = cqTo s[i] s.data.toList (k + 1)) := cq_one' s hlt HC.out fun _ h => absurd h h1
              rw [h9] at b92
              clear h9
              go_wp2_with (go_at_call 43; refine (isLineEnd_any _ _).mono ?_; rintro e w' ⟨rfl, rfl⟩)
              go_round
              case rel => exact ⟨k + 1, by omega, by omega, by go_num, by rw [HR.out]; exact H1.out⟩
              case measure => simp [intOf]; omega
          · have h9' : (s[k] == 92) = false := by simpa using h9
            have H1 : Hid (cqTo s[i] s.data.toList k = cqTo s[i] s.data.toList (k + 1)) := cq_one' s hlt HC.out fun h => absurd h h9
            rw [h9'] at b92
            clear h9 h9'
            go_wp2_with (go_at_call 43; refine (isLineEnd_any _ _).mono ?_; rintro e w' ⟨rfl, rfl⟩)
            go_round
            case rel => exact ⟨k + 1, by omega, by omega, by go_num, by rw [HR.out]; exact H1.out⟩
            case measure => simp [intOf]; omega
    · go_wp2
      go_ret
      exact ⟨ret_int (by rw [HR.out, cq_end' s (by omega)]), rfl⟩
end Go.Proofs.Qxb6616246a
