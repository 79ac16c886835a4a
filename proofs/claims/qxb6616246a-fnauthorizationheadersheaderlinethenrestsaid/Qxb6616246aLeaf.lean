/-
  The byte predicates of the road: each computes a plain Bool function; the world stands.
-/
import Derived.Test.Qxb6616246aRows
import Derived.Test.Qxb6616246aPlain
import Derived.WalkKit
namespace Go.Proofs.Qxb6616246a
open Go.RowKit
theorem ret_bool {a b : Bool} (h : a = b) : Ending.returned (.bool a) = .returned (.bool b) := by rw [h]
theorem ret_int {k : IntKind} {a b : Int} (h : a = b) : Ending.returned (.int k a) = .returned (.int k b) := by rw [h]
theorem blank_int (c : UInt8) : blank c = ((c.toNat : Int) == 32 || (c.toNat : Int) == 9) := by
  rw [Bool.eq_iff_iff]; simp [blank, ← UInt8.toNat_inj]; omega
theorem quote_int (c : UInt8) : quoteB c = ((c.toNat : Int) == 34 || (c.toNat : Int) == 39) := by
  rw [Bool.eq_iff_iff]; simp [quoteB, ← UInt8.toNat_inj]; omega
theorem lend_int (c : UInt8) : lend c = ((c.toNat : Int) == 10 || (c.toNat : Int) == 13) := by
  rw [Bool.eq_iff_iff]; simp [lend, ← UInt8.toNat_inj]; omega
theorem letter_int (c : UInt8) : letter c = ((decide (97 ≤ (c.toNat : Int)) && decide ((c.toNat : Int) ≤ 122)) || (decide (65 ≤ (c.toNat : Int)) && decide ((c.toNat : Int) ≤ 90))) := by
  rw [Bool.eq_iff_iff]; simp [letter, UInt8.le_iff_toNat_le]; omega
theorem digit_int (c : UInt8) : digit c = (decide (48 ≤ (c.toNat : Int)) && decide ((c.toNat : Int) ≤ 57)) := by
  rw [Bool.eq_iff_iff]; simp [digit, UInt8.le_iff_toNat_le]; omega

set_option maxHeartbeats 400000 in
theorem isBlank_any (c : UInt8) (w : World) :
    Calls Try.prog 31 #[.int .u8 (c.toNat : Int)] w fun e w' => e = .returned (.bool (blank c)) ∧ w' = w := by
  rw [blank_int]
  go_enter Try.func31, Try.ntmps31
  go_wp2
  all_goals (go_ret; exact ⟨ret_bool (by simp [*]), rfl⟩)
set_option maxHeartbeats 400000 in
theorem isQuote_any (c : UInt8) (w : World) :
    Calls Try.prog 32 #[.int .u8 (c.toNat : Int)] w fun e w' => e = .returned (.bool (quoteB c)) ∧ w' = w := by
  rw [quote_int]
  go_enter Try.func32, Try.ntmps32
  go_wp2
  all_goals (go_ret; exact ⟨ret_bool (by simp [*]), rfl⟩)
set_option maxHeartbeats 400000 in
theorem isLineEnd_any (c : UInt8) (w : World) :
    Calls Try.prog 43 #[.int .u8 (c.toNat : Int)] w fun e w' => e = .returned (.bool (lend c)) ∧ w' = w := by
  rw [lend_int]
  go_enter Try.func43, Try.ntmps43
  go_wp2
  all_goals (go_ret; exact ⟨ret_bool (by simp [*]), rfl⟩)
set_option maxHeartbeats 400000 in
theorem isDigit_any (c : UInt8) (w : World) :
    Calls Try.prog 55 #[.int .u8 (c.toNat : Int)] w fun e w' => e = .returned (.bool (digit c)) ∧ w' = w := by
  rw [digit_int]
  go_enter Try.func55, Try.ntmps55
  go_wp2
  all_goals (go_ret; refine ⟨ret_bool ?_, rfl⟩; first | rfl | (apply Bool.eq_iff_iff.2; simp; done) | (apply Bool.eq_iff_iff.2; simp; omega))
set_option maxHeartbeats 400000 in
theorem isLetter_any (c : UInt8) (w : World) :
    Calls Try.prog 54 #[.int .u8 (c.toNat : Int)] w fun e w' => e = .returned (.bool (letter c)) ∧ w' = w := by
  rw [letter_int]
  go_enter Try.func54, Try.ntmps54
  go_wp2
  all_goals (go_ret; refine ⟨ret_bool ?_, rfl⟩; first | rfl | (apply Bool.eq_iff_iff.2; simp; done) | (apply Bool.eq_iff_iff.2; simp; omega))
set_option maxHeartbeats 400000 in
theorem isAlnum_any (c : UInt8) (w : World) :
    Calls Try.prog 48 #[.int .u8 (c.toNat : Int)] w fun e w' => e = .returned (.bool (alnum c)) ∧ w' = w := by
  unfold alnum
  go_enter Try.func48, Try.ntmps48
  go_wp2_with (first | (go_at_call 54; refine (isLetter_any _ _).mono ?_; rintro e w' ⟨rfl, rfl⟩) | (go_at_call 55; refine (isDigit_any _ _).mono ?_; rintro e w' ⟨rfl, rfl⟩))
  all_goals (go_ret; exact ⟨ret_bool (by simp [*]), rfl⟩)
set_option maxHeartbeats 400000 in
theorem isNameChar_any (c : UInt8) (w : World) :
    Calls Try.prog 47 #[.int .u8 (c.toNat : Int)] w fun e w' => e = .returned (.bool (nameCh c)) ∧ w' = w := by
  have h1 : (c == 95) = ((c.toNat : Int) == 95) := by rw [Bool.eq_iff_iff]; simp [← UInt8.toNat_inj]; omega
  have h2 : (c == 45) = ((c.toNat : Int) == 45) := by rw [Bool.eq_iff_iff]; simp [← UInt8.toNat_inj]; omega
  unfold nameCh
  rw [h1, h2]
  clear h1 h2
  go_enter Try.func47, Try.ntmps47
  go_wp2_with (go_at_call 48; refine (isAlnum_any _ _).mono ?_; rintro e w' ⟨rfl, rfl⟩)
  all_goals (go_ret; exact ⟨ret_bool (by simp [*]), rfl⟩)
set_option maxHeartbeats 400000 in
theorem notLineEnd_any (c : UInt8) (w : World) :
    Calls Try.prog 42 #[.int .u8 (c.toNat : Int)] w fun e w' => e = .returned (.bool (notLend c)) ∧ w' = w := by
  unfold notLend
  go_enter Try.func42, Try.ntmps42
  go_wp2_with (go_at_call 43; refine (isLineEnd_any _ _).mono ?_; rintro e w' ⟨rfl, rfl⟩)
  all_goals (go_ret; exact ⟨ret_bool (by simp [*]), rfl⟩)
end Go.Proofs.Qxb6616246a
