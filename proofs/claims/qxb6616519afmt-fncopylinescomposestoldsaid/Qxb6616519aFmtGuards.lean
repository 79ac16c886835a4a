/-
  The bounds on the lengths; 'ascendingWithin'.
-/
import Derived.Test.Qxb6616519aFmtStep
import Derived.Deep.QuietTactic
import Derived.BigQuiet
namespace Go.Proofs.Qxb6616519aFmt
set_option linter.unusedVariables false
open Go.RowKit
set_option maxHeartbeats 2000000 in
theorem bytes2 (T : ByteArray) (a : Option Addr) (n c : Nat) (w : World) (hT : T.size ≤ maxLen) (hn : n ≤ maxLen) :
    Calls Tryf.prog 5 #[.string T, .slice a n c] w fun e w' => ∃ b, e = .returned (.bool b) ∧ w = w' := by
  unfold maxLen at hT hn
  go_enter Tryf.func5, Tryf.ntmps5
  go_wp2
  all_goals (go_ret; exact ⟨_, rfl, rfl⟩)
set_option maxHeartbeats 2000000 in
theorem bytes3 (T : ByteArray) (a a' : Option Addr) (n c n' c' : Nat) (w : World) (hT : T.size ≤ maxLen) (hn : n ≤ maxLen) (hn' : n' ≤ maxLen) :
    Calls Tryf.prog 8 #[.string T, .slice a n c, .slice a' n' c'] w fun e w' => ∃ b, e = .returned (.bool b) ∧ w = w' := by
  unfold maxLen at hT hn hn'
  go_enter Tryf.func8, Tryf.ntmps8
  go_wp2
  all_goals (go_ret; exact ⟨_, rfl, rfl⟩)
/-- How many events are taken: those that ascend, from lo on, below N. -/
def ascL (N : Nat) : Int → List Int → Nat
  | _, [] => 0
  | lo, e :: es => if lo ≤ e ∧ e < (N : Int) then 1 + ascL N (e + 1) es else 0
theorem ascL_le (N : Nat) : ∀ (lo : Int) (ev : List Int), ascL N lo ev ≤ ev.length
  | _, [] => Nat.le_refl _
  | lo, e :: es => by
    rw [ascL]
    have := ascL_le N (e + 1) es
    split
    · rw [List.length_cons]; omega
    · omega
/-- The event at place m is fit to be taken. -/
def okAt (N : Nat) (ev : List Int) (m : Nat) : Prop := 0 ≤ ev.getD m 0 ∧ ev.getD m 0 < (N : Int) ∧ (m = 0 ∨ ev.getD (m - 1) 0 < ev.getD m 0)
/-- Where the prefix ends. -/
theorem ascL_eq (N : Nat) : ∀ (ev : List Int) (lo : Int) (m : Nat), 0 ≤ lo → m ≤ ev.length → (∀ j, j < m → lo ≤ ev.getD j 0 ∧ ev.getD j 0 < (N : Int) ∧ (j = 0 ∨ ev.getD (j - 1) 0 < ev.getD j 0)) →
    (m = ev.length ∨ ¬ ((m ≠ 0 ∨ lo ≤ ev.getD m 0) ∧ ev.getD m 0 < (N : Int) ∧ (m = 0 ∨ ev.getD (m - 1) 0 < ev.getD m 0))) → ascL N lo ev = m
  | [], lo, m, _, hm, _, _ => by
    have : m = 0 := by simpa using hm
    subst this
    rfl
  | e :: es, lo, 0, _, _, _, hx => by
    rw [ascL, if_neg]
    rintro ⟨h1, h2⟩
    rcases hx with h | h
    · simp at h
    · exact h ⟨.inr (by simpa using h1), by simpa using h2, .inl rfl⟩
  | e :: es, lo, m + 1, h0, hm, hj, hx => by
    have h1 := hj 0 (by omega)
    simp only [List.getD_cons_zero] at h1
    have h4 : ∀ i, i + 1 ≤ m → e < es.getD i 0 := by
      intro i
      induction i with
      | zero =>
        intro hi
        have := (hj 1 (by omega)).2.2
        simp at this
        simpa using this
      | succ k ih =>
        intro hi
        have a1 := ih (by omega)
        have a2 := (hj (k + 1 + 1) (by omega)).2.2
        simp only [List.getD_cons_succ, Nat.add_sub_cancel] at a2
        rcases a2 with a2 | a2
        · omega
        · omega
    have hA : ∀ j, j < m → e + 1 ≤ es.getD j 0 ∧ es.getD j 0 < (N : Int) ∧ (j = 0 ∨ es.getD (j - 1) 0 < es.getD j 0) := fun j hjm => by
      have h2 := hj (j + 1) (by omega)
      simp only [List.getD_cons_succ, Nat.add_sub_cancel] at h2
      have h3 := h4 j (by omega)
      refine ⟨by omega, h2.2.1, ?_⟩
      cases j with
      | zero => exact .inl rfl
      | succ i =>
        rcases h2.2.2 with h | h
        · omega
        · exact .inr (by simpa using h)
    have hB : m = es.length ∨ ¬ ((m ≠ 0 ∨ e + 1 ≤ es.getD m 0) ∧ es.getD m 0 < (N : Int) ∧ (m = 0 ∨ es.getD (m - 1) 0 < es.getD m 0)) := by
      rcases hx with h | h
      · exact .inl (by simpa using h)
      · refine .inr (fun hh => h ⟨.inl (by omega), by simpa using hh.2.1, .inr ?_⟩)
        cases m with
        | zero =>
          have := hh.1
          simp at this ⊢
          omega
        | succ i =>
          have := hh.2.2
          simp at this ⊢
          simpa using this
    rw [ascL, if_pos ⟨h1.1, h1.2.1⟩, ascL_eq N es (e + 1) m (by omega) (by simpa using hm) hA hB, Nat.add_comm]
end Go.Proofs.Qxb6616519aFmt
