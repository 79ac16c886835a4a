/-
  headerValueFrom.
-/
import Derived.Test.Qxb6616246aAlone
import Derived.Sort.AtCall
namespace Go.Proofs.Qxb6616246a
set_option linter.unusedVariables false
open Go.RowKit
theorem hide {p : Prop} (h : p) : Hid p := h
def optI : Option Nat → Int
  | none => -1
  | some k => (k : Int)
theorem optI_none : optI none = -1 := rfl
theorem optI_some (k : Nat) : optI (some k) = (k : Int) := rfl
theorem hvf_unquoted (t : List UInt8) (st en : Nat) (h : ob quoteB t[en]? = false) :
    hvfAt t st en = if sw t (runTo blank t en) [58] then (if sw t (runTo blank t en) [58, 58] then none else some (runTo blank t en + 1)) else none := by
  have hK : hvK t en = runTo blank t en := by unfold hvK; rw [h]; rfl
  unfold hvfAt
  rw [hK]
  cases ht : t[en]? with
  | none => rfl
  | some q =>
    rw [ht] at h
    have : quoteB q = false := h
    simp [this]
set_option maxHeartbeats 1000000 in
theorem hv_unquoted (s : ByteArray) (st en : Nat) (w : World) (hs : s.size ≤ 1000000000) (hst : st ≤ s.size) (hen : en ≤ s.size) (h : Hid (ob quoteB s.data.toList[en]? = false)) :
    Calls Try.prog 29 #[.string s, .int .i64 st, .int .i64 en] w fun e w' => e = .returned (.int .i64 (optI (hvfAt s.data.toList st en))) ∧ ∃ n, w' = w.drewN n := by
  rw [hvf_unquoted _ _ _ h.out]
  have hK : runTo blank s.data.toList en ≤ s.size := run_le' s hen
  have RB : Hid (∀ w, Calls Try.prog 30 #[.string s, .int .i64 en, .func (.func 31) #[] #[]] w fun e w' => e = .returned (.int .i64 (runTo blank s.data.toList en : Nat)) ∧ w' = w) :=
    fun w => run_blank s en w hs (by omega)
  generalize runTo blank s.data.toList en = K at hK RB ⊢
  have hq : ∀ hlt : en < s.size, quoteB s[en] = false := by
    intro hlt; have h1 := h.out; rw [ob_some _ s hlt] at h1; exact h1
  clear h
  by_cases hlt : en < s.size
  · have hq' := hq hlt
    clear hq
    go_enter Try.func29, Try.ntmps29
    go_wp2_with (first | (go_at_call 32; refine (isQuote_any _ _).mono ?_; rintro e w' ⟨rfl, rfl⟩) | (go_at_call 30; refine (RB.out _).mono ?_; rintro e w' ⟨rfl, rfl⟩) | (go_at_call 38; refine (prefixAt _ _ _ _).mono ?_; rintro e w' ⟨rfl, rfl⟩))
    all_goals (go_ret; exact ⟨ret_int (by simp [*, optI]), 0, rfl⟩)
  · clear hq
    go_enter Try.func29, Try.ntmps29
    go_wp2_with (first | (go_at_call 32; refine (isQuote_any _ _).mono ?_; rintro e w' ⟨rfl, rfl⟩) | (go_at_call 30; refine (RB.out _).mono ?_; rintro e w' ⟨rfl, rfl⟩) | (go_at_call 38; refine (prefixAt _ _ _ _).mono ?_; rintro e w' ⟨rfl, rfl⟩))
    all_goals (go_ret; exact ⟨ret_int (by simp [*, optI]), 0, rfl⟩)

def hvRest (t : List UInt8) (k : Nat) : Option Nat :=
  if sw t k [61, 62] then some (k + 2) else if sw t k [61] && !sw t k [61, 61] then some (k + 1) else none
theorem hvf_quoted (s : ByteArray) (st en : Nat) (hlt : en < s.size) (h : quoteB s[en] = true) :
    hvfAt s.data.toList st en = if sw s.data.toList (runTo blank s.data.toList (en + 1)) [58] then (if sw s.data.toList (runTo blank s.data.toList (en + 1)) [58, 58] then none else some (runTo blank s.data.toList (en + 1) + 1))
      else if aloneAt s.data.toList st s[en] then
        (if sw s.data.toList (runTo blank s.data.toList (en + 1)) [44] then some (runTo blank s.data.toList (en + 1) + 1)
        else if sw s.data.toList (runTo blank s.data.toList (en + 1)) [93] then hvRest s.data.toList (runTo blank s.data.toList (runTo blank s.data.toList (en + 1) + 1)) else hvRest s.data.toList (runTo blank s.data.toList (en + 1)))
      else none := by
  have hK : hvK s.data.toList en = runTo blank s.data.toList (en + 1) := by unfold hvK; rw [ob_some _ s hlt, h]; rfl
  unfold hvfAt
  rw [hK, at_some s hlt]
  simp only [h, Bool.true_and, hvRest]
  split
  · rfl
  · split
    · split
      · rfl
      · split <;> rfl
    · rfl
theorem sw_lt (s : ByteArray) (k : Nat) (c : UInt8) (h : sw s.data.toList k [c] = true) : k < s.size := by
  apply Classical.byContradiction
  intro hn
  unfold sw at h
  rw [List.drop_of_length_le (by rw [len_eq]; omega)] at h
  cases h
set_option maxHeartbeats 2000000 in
theorem hv_quoted (s : ByteArray) (st en : Nat) (w : World) (hs : s.size ≤ 1000000000) (hst : st ≤ s.size) (hlt : en < s.size) (h : quoteB s[en] = true) :
    Calls Try.prog 29 #[.string s, .int .i64 st, .int .i64 en] w fun e w' => e = .returned (.int .i64 (optI (hvfAt s.data.toList st en))) ∧ ∃ n, w' = w.drewN n := by
  rw [hvf_quoted s st en hlt h]
  have hK : runTo blank s.data.toList (en + 1) ≤ s.size := run_le' s (by omega)
  have RB : Hid (∀ w, Calls Try.prog 30 #[.string s, .int .i64 ((en : Int) + 1), .func (.func 31) #[] #[]] w fun e w' => e = .returned (.int .i64 (runTo blank s.data.toList (en + 1) : Nat)) ∧ w' = w) :=
    fun w => run_blank s (en + 1) w hs (by omega)
  have AL : Hid (∀ w, Calls Try.prog 39 #[.string s, .int .i64 st, .int .i64 en] w fun e w' => e = .returned (.bool (aloneAt s.data.toList st s[en])) ∧ ∃ n, w' = w.drewN n) := fun w => alone_any s st en w hs hst hlt
  generalize runTo blank s.data.toList (en + 1) = K at hK RB ⊢
  generalize aloneAt s.data.toList st s[en] = al at AL ⊢
  by_cases h1 : sw s.data.toList K [58] = true
  · generalize hr : optI _ = r; have HR := hide hr; clear hr
    go_enter Try.func29, Try.ntmps29
    go_wp2_with (first | (go_at_call 32; refine (isQuote_any _ _).mono ?_; rintro e w' ⟨rfl, rfl⟩) | (go_at_call 30; refine (RB.out _).mono ?_; rintro e w' ⟨rfl, rfl⟩) | (go_at_call 38; refine (prefixAt _ _ _ _).mono ?_; rintro e w' ⟨rfl, rfl⟩))
    all_goals (go_ret; exact ⟨ret_int (by rw [← HR.out]; simp [*, optI]), 0, rfl⟩)
  · have h1' : sw s.data.toList K [58] = false := by simpa using h1
    clear h1
    by_cases h5 : sw s.data.toList K [93] = true
    · have hK1 := sw_lt s K 93 h5
      have hK2 : runTo blank s.data.toList (K + 1) ≤ s.size := run_le' s (by omega)
      have RB2 : Hid (∀ w, Calls Try.prog 30 #[.string s, .int .i64 ((K : Int) + 1), .func (.func 31) #[] #[]] w fun e w' => e = .returned (.int .i64 (runTo blank s.data.toList (K + 1) : Nat)) ∧ w' = w) :=
        fun w => run_blank s (K + 1) w hs (by omega)
      generalize runTo blank s.data.toList (K + 1) = K2 at hK2 RB2 ⊢
      unfold hvRest
      cases al
      all_goals
        generalize hr : optI _ = r; have HR := hide hr; clear hr
        go_enter Try.func29, Try.ntmps29
        go_wp2_with (first | (go_at_call 32; refine (isQuote_any _ _).mono ?_; rintro e w' ⟨rfl, rfl⟩) | (go_at_call_has 30 (Value.int .i64 ((en : Int) + 1)); refine (RB.out _).mono ?_; rintro e w' ⟨rfl, rfl⟩) | (go_at_call_has 30 (Value.int .i64 ((K : Int) + 1)); refine (RB2.out _).mono ?_; rintro e w' ⟨rfl, rfl⟩) | (go_at_call 38; refine (prefixAt _ _ _ _).mono ?_; rintro e w' ⟨rfl, rfl⟩) | (go_at_call 39; refine (AL.out _).mono ?_; rintro e w' ⟨rfl, n, rfl⟩))
        all_goals (go_ret; exact ⟨ret_int (by rw [← HR.out]; simp [*, optI]), _, rfl⟩)
    · have h5' : sw s.data.toList K [93] = false := by simpa using h5
      clear h5
      unfold hvRest
      cases al
      all_goals
        generalize hr : optI _ = r; have HR := hide hr; clear hr
        go_enter Try.func29, Try.ntmps29
        go_wp2_with (first | (go_at_call 32; refine (isQuote_any _ _).mono ?_; rintro e w' ⟨rfl, rfl⟩) | (go_at_call 30; refine (RB.out _).mono ?_; rintro e w' ⟨rfl, rfl⟩) | (go_at_call 38; refine (prefixAt _ _ _ _).mono ?_; rintro e w' ⟨rfl, rfl⟩) | (go_at_call 39; refine (AL.out _).mono ?_; rintro e w' ⟨rfl, n, rfl⟩))
        all_goals (go_ret; exact ⟨ret_int (by rw [← HR.out]; simp [*, optI]), _, rfl⟩)
theorem hv_any (s : ByteArray) (st en : Nat) (w : World) (hs : s.size ≤ 1000000000) (hst : st ≤ s.size) (hen : en ≤ s.size) :
    Calls Try.prog 29 #[.string s, .int .i64 st, .int .i64 en] w fun e w' => e = .returned (.int .i64 (optI (hvfAt s.data.toList st en))) ∧ ∃ n, w' = w.drewN n := by
  cases h : ob quoteB s.data.toList[en]? with
  | false => exact hv_unquoted s st en w hs hst hen h
  | true =>
    have hlt : en < s.size := by
      apply Classical.byContradiction
      intro hn
      rw [ob_none quoteB s (by omega)] at h
      cases h
    rw [ob_some quoteB s hlt] at h
    exact hv_quoted s st en w hs hst hlt h
end Go.Proofs.Qxb6616246a
