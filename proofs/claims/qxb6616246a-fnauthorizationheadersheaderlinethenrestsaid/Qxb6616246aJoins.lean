/-
  joinsText, quotedValueEnd.
-/
import Derived.Test.Qxb6616246aQuotes
import Derived.Test.Qxb6616246aStrs
namespace Go.Proofs.Qxb6616246a
set_option linter.unusedVariables false
open Go.RowKit
theorem at_some (s : ByteArray) {i : Nat} (h : i < s.size) : s.data.toList[i]? = some s[i] := Lib.data_getElem? s i h
theorem at_none (s : ByteArray) {i : Nat} (h : s.size ≤ i) : s.data.toList[i]? = none := by
  rw [List.getElem?_eq_none_iff, len_eq]; exact h
theorem ob_some (f : UInt8 → Bool) (s : ByteArray) {i : Nat} (h : i < s.size) : ob f s.data.toList[i]? = f s[i] := by rw [at_some s h]; rfl
theorem ob_none (f : UInt8 → Bool) (s : ByteArray) {i : Nat} (h : s.size ≤ i) : ob f s.data.toList[i]? = false := by rw [at_none s h]; rfl
theorem beq36 (a : UInt8) : ((a.toNat : Int) == 36) = (a == 36) := toNat_beq a 36
set_option maxHeartbeats 1000000 in
theorem joins_yes (s : ByteArray) (i : Nat) (w : World) (hs : s.size ≤ 1000000000) (hlt : i < s.size) (h : Hid (joinC s[i] = true)) :
    Calls Try.prog 41 #[.string s, .int .i64 i] w fun e w' => e = .returned (.bool true) ∧ w' = w := by
  have h0 : (alnum s[i] || (s[i].toNat : Int) == 36) = true := by rw [beq36]; exact h.out
  by_cases ha : alnum s[i] = true
  · clear h0
    go_enter Try.func41, Try.ntmps41
    go_wp2_with (go_at_call 48; refine (isAlnum_any _ _).mono ?_; rintro e w' ⟨rfl, rfl⟩)
    go_ret
    exact ⟨rfl, rfl⟩
  · have ha' : alnum s[i] = false := by simpa using ha
    have h1 : ((s[i].toNat : Int) == 36) = true := by rw [ha'] at h0; exact h0
    clear h0 ha
    go_enter Try.func41, Try.ntmps41
    go_wp2_with (go_at_call 48; refine (isAlnum_any _ _).mono ?_; rintro e w' ⟨rfl, rfl⟩)
    go_ret
    exact ⟨rfl, rfl⟩
set_option maxHeartbeats 1000000 in
theorem joins_no (s : ByteArray) (i r : Nat) (w : World) (hs : s.size ≤ 1000000000) (hi : i ≤ 1000000001) (hr : Hid (runTo blank s.data.toList i = r))
    (h : Hid (ob joinC s.data.toList[i]? = false)) :
    Calls Try.prog 41 #[.string s, .int .i64 i] w fun e w' => e = .returned (.bool (ob joinD s.data.toList[r]?)) ∧ w' = w := by
  have RB : Hid (∀ w, Calls Try.prog 30 #[.string s, .int .i64 i, .func (.func 31) #[] #[]] w fun e w' => e = .returned (.int .i64 (r : Nat)) ∧ w' = w) := by
    intro w; have := run_blank s i w hs hi; rw [hr.out] at this; exact this
  clear hr
  have key : ∀ hlt : i < s.size, alnum s[i] = false ∧ ((s[i].toNat : Int) == 36) = false := by
    intro hlt
    have h1 := h.out
    rw [ob_some joinC s hlt] at h1
    unfold joinC at h1
    rw [beq36]
    simpa using h1
  clear h
  by_cases hr : r < s.size
  · rw [ob_some joinD s hr]
    unfold joinD
    by_cases hlt : i < s.size
    · obtain ⟨k1, k2⟩ := key hlt
      clear key
      go_enter Try.func41, Try.ntmps41
      go_wp2_with (first | (go_at_call 48; refine (isAlnum_any _ _).mono ?_; rintro e w' ⟨rfl, rfl⟩) | (go_at_call 30; refine (RB.out _).mono ?_; rintro e w' ⟨rfl, rfl⟩) | (go_at_call 32; refine (isQuote_any _ _).mono ?_; rintro e w' ⟨rfl, rfl⟩) | (go_at_call 49; refine (strings_IndexByte _ _ _).mono ?_; rintro e w' ⟨rfl, rfl⟩))
      all_goals (go_ret; refine ⟨ret_bool ?_, rfl⟩; first | (simp [*, joinersL]; done) | (simp only [*, Bool.false_or]; exact decide_eq_decide.2 Iff.rfl))
    · clear key
      go_enter Try.func41, Try.ntmps41
      go_wp2_with (first | (go_at_call 48; refine (isAlnum_any _ _).mono ?_; rintro e w' ⟨rfl, rfl⟩) | (go_at_call 30; refine (RB.out _).mono ?_; rintro e w' ⟨rfl, rfl⟩) | (go_at_call 32; refine (isQuote_any _ _).mono ?_; rintro e w' ⟨rfl, rfl⟩) | (go_at_call 49; refine (strings_IndexByte _ _ _).mono ?_; rintro e w' ⟨rfl, rfl⟩))
      all_goals (go_ret; refine ⟨ret_bool ?_, rfl⟩; first | (simp [*, joinersL]; done) | (simp only [*, Bool.false_or]; exact decide_eq_decide.2 Iff.rfl))
  · rw [ob_none joinD s (by omega)]
    by_cases hlt : i < s.size
    · obtain ⟨k1, k2⟩ := key hlt
      clear key
      go_enter Try.func41, Try.ntmps41
      go_wp2_with (first | (go_at_call 48; refine (isAlnum_any _ _).mono ?_; rintro e w' ⟨rfl, rfl⟩) | (go_at_call 30; refine (RB.out _).mono ?_; rintro e w' ⟨rfl, rfl⟩) | (go_at_call 32; refine (isQuote_any _ _).mono ?_; rintro e w' ⟨rfl, rfl⟩) | (go_at_call 49; refine (strings_IndexByte _ _ _).mono ?_; rintro e w' ⟨rfl, rfl⟩))
      all_goals (go_ret; exact ⟨rfl, rfl⟩)
    · clear key
      go_enter Try.func41, Try.ntmps41
      go_wp2_with (first | (go_at_call 48; refine (isAlnum_any _ _).mono ?_; rintro e w' ⟨rfl, rfl⟩) | (go_at_call 30; refine (RB.out _).mono ?_; rintro e w' ⟨rfl, rfl⟩) | (go_at_call 32; refine (isQuote_any _ _).mono ?_; rintro e w' ⟨rfl, rfl⟩) | (go_at_call 49; refine (strings_IndexByte _ _ _).mono ?_; rintro e w' ⟨rfl, rfl⟩))
      all_goals (go_ret; exact ⟨rfl, rfl⟩)
theorem joins_any (s : ByteArray) (i : Nat) (w : World) (hs : s.size ≤ 1000000000) (hi : i ≤ 1000000001) :
    Calls Try.prog 41 #[.string s, .int .i64 i] w fun e w' => e = .returned (.bool (joinsAt s.data.toList i)) ∧ w' = w := by
  unfold joinsAt
  cases h : ob joinC s.data.toList[i]? with
  | true =>
    have hlt : i < s.size := by
      apply Classical.byContradiction
      intro hn
      rw [ob_none joinC s (by omega)] at h
      cases h
    rw [ob_some joinC s hlt] at h
    simpa using joins_yes s i w hs hlt h
  | false => simpa using joins_no s i _ w hs hi rfl h
set_option maxHeartbeats 1000000 in
theorem qve_any (s : ByteArray) (i : Nat) (w : World) (hs : s.size ≤ 1000000000) (hi : i < s.size) :
    Calls Try.prog 33 #[.string s, .int .i64 i] w fun e w' => e = .returned (.int .i64 (qveAt s.data.toList i s[i] : Nat)) ∧ w' = w := by
  have hle : cqTo s[i] s.data.toList (i + 1) ≤ s.size := by
    have := cqTo_le s[i] s.data.toList (i + 1) (by rw [len_eq]; omega)
    rw [len_eq] at this; exact this
  unfold qveAt
  have CQ : Hid (∀ w, Calls Try.prog 40 #[.string s, .int .i64 i] w fun e w' => e = .returned (.int .i64 (cqTo s[i] s.data.toList (i + 1) : Nat)) ∧ w' = w) := fun w => closingQuote_any s i w hs hi
  generalize cqTo s[i] s.data.toList (i + 1) = m at hle CQ ⊢
  have J : Hid (∀ w, Calls Try.prog 41 #[.string s, .int .i64 ((m : Int) + 1)] w fun e w' => e = .returned (.bool (joinsAt s.data.toList (m + 1))) ∧ w' = w) := fun w => joins_any s (m + 1) w hs (by omega)
  generalize joinsAt s.data.toList (m + 1) = b at J ⊢
  go_enter Try.func33, Try.ntmps33
  go_wp2_with (first | (go_at_call 40; refine (CQ.out _).mono ?_; rintro e w' ⟨rfl, rfl⟩) | (go_at_call 41; refine (J.out _).mono ?_; rintro e w' ⟨rfl, rfl⟩) | (go_at_call 34; refine (lineEnd_any _ _ _ (by assumption) (by omega)).mono ?_; rintro e w' ⟨rfl, rfl⟩))
  all_goals (go_ret; exact ⟨ret_int (by simp [*]), rfl⟩)
end Go.Proofs.Qxb6616246a
