/-
  'String' and 'zzSpell'.
-/
import Derived.Test.Qxb6616084aRead
import Derived.Laws.Concat
namespace Go.Proofs.Qxb6616084a
set_option linter.unusedVariables false
open Go.RowKit
/-- The spelling of the pattern (b, t). -/
def spellB (b : ByteArray) (t : Bool) : ByteArray := if t = false then b else if b.data.toList = dot then ⟨#[46, 46, 46]⟩ else b ++ ⟨#[47, 46, 46, 46]⟩
set_option maxHeartbeats 4000000 in
theorem string_any (b : ByteArray) (t : Bool) (w : World) (hb : b.size ≤ 1048576) :
    Calls Try.prog 21 #[.agg #[.string b, .bool t]] w fun e w' => e = .returned (.string (spellB b t)) ∧ Below w.heap.size w w' := by
  have e2 := beq_lit b [46]
  have hbl : ∀ o, Below w.heap.size w (w.alloc o) := fun o => (Below.refl _ w).alloc (Nat.le_refl _) o
  obtain ⟨r, HR⟩ : ∃ r, Hid (spellB b t = r) := ⟨_, rfl⟩
  rw [HR.out]
  cases t with
  | false =>
    have hr : Hid (r = b) := by rw [← HR.out]; exact hide (by simp [spellB])
    go_enter Try.func21, Try.ntmps21
    go_wp2
    go_ret
    exact ⟨by rw [hr.out]; rfl, hbl _⟩
  | true =>
    by_cases h2 : b.data.toList = dot
    · have hr : Hid (r = ⟨#[46, 46, 46]⟩) := by rw [← HR.out]; exact hide (by simp [spellB, h2])
      rw [decide_eq_true (show b.data.toList = [46] from h2)] at e2
      clear h2
      go_enter Try.func21, Try.ntmps21
      go_wp2
      go_ret
      exact ⟨by rw [hr.out]; rfl, hbl _⟩
    · have hr : Hid (r = b ++ ⟨#[47, 46, 46, 46]⟩) := by rw [← HR.out]; exact hide (by simp [spellB, h2])
      rw [decide_eq_false (show ¬ b.data.toList = [46] from h2)] at e2
      clear h2
      have hadd := fun W => run_string_add_sum (P := Try.prog) W b ⟨#[47, 46, 46, 46]⟩ (by show b.size + 4 ≤ _; omega)
      go_enter Try.func21, Try.ntmps21
      go_wp2
      go_ret
      exact ⟨by rw [hr.out]; rfl, hbl _⟩
set_option maxHeartbeats 4000000 in
theorem zzspell_any (b : ByteArray) (t : Bool) (w : World) (hb : b.size ≤ 1048576) :
    Calls Try.prog 23 #[.string b, .bool t] w fun e w' => e = .returned (.string (spellB b t)) ∧ w' = w := by
  have e2 := beq_lit b [46]
  obtain ⟨r, HR⟩ : ∃ r, Hid (spellB b t = r) := ⟨_, rfl⟩
  rw [HR.out]
  cases t with
  | false =>
    have hr : Hid (r = b) := by rw [← HR.out]; exact hide (by simp [spellB])
    go_enter Try.func23, Try.ntmps23
    go_wp2
    go_ret
    exact ⟨by rw [hr.out]; rfl, rfl⟩
  | true =>
    by_cases h2 : b.data.toList = dot
    · have hr : Hid (r = ⟨#[46, 46, 46]⟩) := by rw [← HR.out]; exact hide (by simp [spellB, h2])
      rw [decide_eq_true (show b.data.toList = [46] from h2)] at e2
      clear h2
      go_enter Try.func23, Try.ntmps23
      go_wp2
      go_ret
      exact ⟨by rw [hr.out]; rfl, rfl⟩
    · have hr : Hid (r = b ++ ⟨#[47, 46, 46, 46]⟩) := by rw [← HR.out]; exact hide (by simp [spellB, h2])
      rw [decide_eq_false (show ¬ b.data.toList = [46] from h2)] at e2
      clear h2
      have hadd := fun W => run_string_add_sum (P := Try.prog) W b ⟨#[47, 46, 46, 46]⟩ (by show b.size + 4 ≤ _; omega)
      go_enter Try.func23, Try.ntmps23
      go_wp2
      go_ret
      exact ⟨by rw [hr.out]; rfl, rfl⟩
end Go.Proofs.Qxb6616084a
