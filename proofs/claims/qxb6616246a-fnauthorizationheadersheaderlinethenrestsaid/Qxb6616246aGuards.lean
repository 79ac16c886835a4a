/-
  The tests at the laws' heads: the bounds on lengths, bareHeaderValue, quotedContent.
-/
import Derived.Test.Qxb6616246aHeader
namespace Go.Proofs.Qxb6616246a
set_option linter.unusedVariables false
open Go.RowKit
set_option maxHeartbeats 1000000 in
theorem bytes1 (a0 a1 a2 : ByteArray) (p3 p4 : Option Addr) (n3 c3 n4 c4 : Nat) (w : World) (h0 : a0.size ≤ maxLen) (h1 : a1.size ≤ maxLen) (h2 : a2.size ≤ maxLen) (h3 : n3 ≤ maxLen) (h4 : n4 ≤ maxLen) :
    Calls Try.prog 6 #[.string a0, .string a1, .string a2, .slice p3 n3 c3, .slice p4 n4 c4] w fun e w' => ∃ b, e = .returned (.bool b) ∧ w = w' := by
  unfold maxLen at h0 h1 h2 h3 h4
  go_enter Try.func6, Try.ntmps6
  go_wp2
  all_goals (go_ret; exact ⟨_, rfl, rfl⟩)
set_option maxHeartbeats 1000000 in
theorem bytes2 (a0 a1 a2 : ByteArray) (w : World) (h0 : a0.size ≤ maxLen) (h1 : a1.size ≤ maxLen) (h2 : a2.size ≤ maxLen) :
    Calls Try.prog 14 #[.string a0, .string a1, .string a2] w fun e w' => ∃ b, e = .returned (.bool b) ∧ w = w' := by
  unfold maxLen at h0 h1 h2
  go_enter Try.func14, Try.ntmps14
  go_wp2
  all_goals (go_ret; exact ⟨_, rfl, rfl⟩)
/-- 'bareHeaderValue'. -/
def Bare (s : ByteArray) : Prop := ∃ h : 0 < s.size, blank s[0] = false ∧ quoteB s[0] = false ∧ ∀ j (hj : j < s.size), lend s[j] = false
/-- 'quotedContent'. -/
def Content (s : ByteArray) : Prop := 0 < s.size ∧ ∀ j (hj : j < s.size), (s[j] == 34) = false ∧ (s[j] == 92) = false ∧ lend s[j] = false
theorem content_byte {c : UInt8} (h : ((((c.toNat : Int) == 34) = false ∧ ((c.toNat : Int) == 92) = false) ∧ ((c.toNat : Int) == 10) = false) ∧ ((c.toNat : Int) == 13) = false) : (c == 34) = false ∧ (c == 92) = false ∧ lend c = false := by
  obtain ⟨⟨⟨h1, h2⟩, h3⟩, h4⟩ := h
  refine ⟨(toNat_beq c 34).symm.trans h1, (toNat_beq c 92).symm.trans h2, ?_⟩
  rw [lend_int, h3, h4]; rfl
theorem upTo_succ {s : ByteArray} {k : Nat} {p : UInt8 → Prop} (H : ∀ j (hj : j < s.size), j < k → p s[j]) {hk : k < s.size} (h : p s[k]) : ∀ j (hj : j < s.size), j < k + 1 → p s[j] := by
  intro j hj hjk
  by_cases e : j = k
  · subst e; exact h
  · exact H j hj (by omega)
set_option maxHeartbeats 1000000 in
theorem content_any (s : ByteArray) (w : World) (hs : s.size ≤ 1000000000) :
    Calls Try.prog 15 #[.string s] w fun e w' => w = w' ∧ (e = .returned (.bool false) ∨ (e = .returned (.bool true) ∧ Content s)) := by
  by_cases h0 : (s.size : Int) = 0
  · go_enter Try.func15, Try.ntmps15
    go_wp2
    go_ret
    exact ⟨rfl, .inl rfl⟩
  · have h0' : ((s.size : Int) == 0) = false := by simpa using h0
    have hp : 0 < s.size := by omega
    clear h0
    go_enter Try.func15, Try.ntmps15
    go_wp2
    go_loop [3] (fun i => ∃ k : Nat, k ≤ s.size ∧ i = .int .i64 k ∧ Hid (∀ j (hj : j < s.size), j < k → (s[j] == 34) = false ∧ (s[j] == 92) = false ∧ lend s[j] = false)) (fun i => s.size - (intOf i).toNat)
    case atStart => exact ⟨0, by omega, rfl, fun j _ h => absurd h (Nat.not_lt_zero _)⟩
    case round =>
      obtain ⟨k, hk, rfl, H⟩ := hrel
      by_cases hlt : k < s.size
      · go_wp2
        all_goals first
          | (go_ret; exact ⟨rfl, .inl rfl⟩)
          | skip
        have hc : ((((s[k].toNat : Int) == 34) = false ∧ ((s[k].toNat : Int) == 92) = false) ∧ ((s[k].toNat : Int) == 10) = false) ∧ ((s[k].toNat : Int) == 13) = false := by assumption
        go_round
        case rel => exact ⟨k + 1, by omega, by go_num, upTo_succ (p := fun c => (c == 34) = false ∧ (c == 92) = false ∧ lend c = false) (hk := hlt) H.out (content_byte hc)⟩
        case measure => simp [intOf]; omega
      · go_wp2
        go_ret
        exact ⟨rfl, .inr ⟨rfl, hp, fun j hj => H.out j hj (by omega)⟩⟩
theorem lend_byte {c : UInt8} (h : ((c.toNat : Int) == 10) = false ∧ ((c.toNat : Int) == 13) = false) : lend c = false := by
  rw [lend_int, h.1, h.2]; rfl
theorem head_byte {c : UInt8} (h : ((((c.toNat : Int) == 32) = false ∧ ((c.toNat : Int) == 9) = false) ∧ ((c.toNat : Int) == 34) = false) ∧ ((c.toNat : Int) == 39) = false) : blank c = false ∧ quoteB c = false := by
  obtain ⟨⟨⟨h1, h2⟩, h3⟩, h4⟩ := h
  rw [blank_int, quote_int, h1, h2, h3, h4]; exact ⟨rfl, rfl⟩
set_option maxHeartbeats 1000000 in
theorem bare_any (s : ByteArray) (w : World) (hs : s.size ≤ 1000000000) :
    Calls Try.prog 8 #[.string s] w fun e w' => w = w' ∧ (e = .returned (.bool false) ∨ (e = .returned (.bool true) ∧ Bare s)) := by
  by_cases h0 : (s.size : Int) = 0
  · go_enter Try.func8, Try.ntmps8
    go_wp2
    go_ret
    exact ⟨rfl, .inl rfl⟩
  · have h0' : ((s.size : Int) == 0) = false := by simpa using h0
    have hp : 0 < s.size := by omega
    clear h0
    go_enter Try.func8, Try.ntmps8
    go_wp2
    all_goals first
      | (go_ret; exact ⟨rfl, .inl rfl⟩)
      | skip
    have hh : (((((s[0].toNat : Int) == 32) = false ∧ ((s[0].toNat : Int) == 9) = false) ∧ ((s[0].toNat : Int) == 34) = false) ∧ ((s[0].toNat : Int) == 39) = false) := by assumption
    have HH := hide (head_byte hh)
    clear hh
    go_loop [3] (fun i => ∃ k : Nat, k ≤ s.size ∧ i = .int .i64 k ∧ Hid (∀ j (hj : j < s.size), j < k → lend s[j] = false)) (fun i => s.size - (intOf i).toNat)
    case atStart => exact ⟨0, by omega, rfl, fun j _ h => absurd h (Nat.not_lt_zero _)⟩
    case round =>
      obtain ⟨k, hk, rfl, H⟩ := hrel
      by_cases hlt : k < s.size
      · go_wp2
        all_goals first
          | (go_ret; exact ⟨rfl, .inl rfl⟩)
          | skip
        have hc : ((s[k].toNat : Int) == 10) = false ∧ ((s[k].toNat : Int) == 13) = false := by assumption
        go_round
        case rel => exact ⟨k + 1, by omega, by go_num, upTo_succ (p := fun c => lend c = false) (hk := hlt) H.out (lend_byte hc)⟩
        case measure => simp [intOf]; omega
      · go_wp2
        go_ret
        exact ⟨rfl, .inr ⟨rfl, hp, HH.out.1, HH.out.2, fun j hj => H.out j hj (by omega)⟩⟩
end Go.Proofs.Qxb6616246a
