/-
  The closure of authorizationHeaders.
-/
import Derived.Test.Qxb6616246aSpans
namespace Go.Proofs.Qxb6616246a
set_option linter.unusedVariables false
open Go.RowKit
set_option maxHeartbeats 1000000 in
theorem match_none (base B Bt Bs : Nat) (t lo : ByteArray) (sp : List (Int × Int)) (i : Nat) (w : World) (hs : t.size ≤ 1000000000) (hi : i + 13 ≤ t.size)
    (hn : Hid (hvfAt t.data.toList i (i + 13) = none)) (ht : w.cell? ⟨Bt, 0, none⟩ = some (.string t)) (hsc : w.cell? ⟨Bs, 0, none⟩ = some (.pointer (some ⟨B, 0, none⟩))) :
    Calls Try.prog 28 #[.int .i64 i, .pointer (some ⟨Bt, 0, none⟩), .pointer (some ⟨Bs, 0, none⟩)] w fun e w' => e = .returned (.int .i64 ((i : Int) + 1)) ∧ ∃ n, w' = w.drewN n := by
  have HV : Hid (∀ w, Calls Try.prog 29 #[.string t, .int .i64 i, .int .i64 ((i : Int) + 13)] w fun e w' => e = .returned (.int .i64 (-1)) ∧ ∃ n, w' = w.drewN n) := by
    intro w
    have := hv_any t i (i + 13) w hs (by omega) hi
    rw [hn.out] at this
    exact this
  go_enter Try.func28, Try.ntmps28
  go_wp2_with (go_at_call 29; refine (HV.out _).mono ?_; rintro e w' ⟨rfl, n, rfl⟩)
  go_ret
  exact ⟨rfl, _, rfl⟩
set_option maxHeartbeats 2000000 in
theorem match_some (base B Bt Bs : Nat) (t lo : ByteArray) (sp : List (Int × Int)) (i f : Nat) (w : World) (hs : t.size ≤ 1000000000) (hi : i + 13 ≤ t.size)
    (hn : Hid (hvfAt t.data.toList i (i + 13) = some f)) (ht : w.cell? ⟨Bt, 0, none⟩ = some (.string t)) (hsc : w.cell? ⟨Bs, 0, none⟩ = some (.pointer (some ⟨B, 0, none⟩)))
    (h : Hid (ScanAt w base B t lo sp)) (hl : sp.length ≤ 1000000000) (hb : base ≤ w.heap.size) :
    Calls Try.prog 28 #[.int .i64 i, .pointer (some ⟨Bt, 0, none⟩), .pointer (some ⟨Bs, 0, none⟩)] w fun e w' => e = .returned (.int .i64 (nextOf i (valueAt t.data.toList (runTo blank t.data.toList f)))) ∧ ScanAt w' base B t lo (sp ++ found (valueAt t.data.toList (runTo blank t.data.toList f))) ∧ Still base B w w' := by
  have hf : f ≤ t.size := by have := hvf_le hn.out; rw [len_eq] at this; exact this
  have HV : Hid (∀ w, Calls Try.prog 29 #[.string t, .int .i64 i, .int .i64 ((i : Int) + 13)] w fun e w' => e = .returned (.int .i64 f) ∧ ∃ n, w' = w.drewN n) := by
    intro w
    have := hv_any t i (i + 13) w hs (by omega) hi
    rw [hn.out] at this
    exact this
  have RB : Hid (∀ w, Calls Try.prog 30 #[.string t, .int .i64 f, .func (.func 31) #[] #[]] w fun e w' => e = .returned (.int .i64 (runTo blank t.data.toList f : Nat)) ∧ w' = w) :=
    fun w => run_blank t f w hs (by omega)
  have hK : runTo blank t.data.toList f ≤ t.size := run_le' t hf
  clear hn
  generalize runTo blank t.data.toList f = K at hK RB ⊢
  have LE : Hid (∀ w, Calls Try.prog 34 #[.string t, .int .i64 K] w fun e w' => e = .returned (.int .i64 (runTo notLend t.data.toList K : Nat)) ∧ w' = w) := fun w => lineEnd_any t K w hs (by omega)
  have AD : Hid (∀ (a b : Int) n, Calls Try.prog 23 #[.pointer (some ⟨B, 0, none⟩), .int .i64 a, .int .i64 b] (w.drewN n) fun e w' => e = .returned (.tuple #[]) ∧ ScanAt w' base B t lo (sp ++ [(a, b)]) ∧ Still base B w w') := by
    intro a b n
    refine (add_any base B t lo sp a b (w.drewN n) (h.out.drewN n) hl hb).mono ?_
    rintro e w' ⟨rfl, h1, h2⟩
    exact ⟨rfl, h1, ((Still.refl base B w).drewN n).trans h2⟩
  by_cases hq : ob quoteB t.data.toList[K]? = true
  · have hlt : K < t.size := by
      apply Classical.byContradiction
      intro hn
      rw [ob_none quoteB t (by omega)] at hq
      cases hq
    have HQ := hide hq
    rw [ob_some quoteB t hlt] at hq
    have QV : Hid (∀ w, Calls Try.prog 33 #[.string t, .int .i64 K] w fun e w' => e = .returned (.int .i64 (qveAt t.data.toList K t[K] : Nat)) ∧ w' = w) := fun w => qve_any t K w hs hlt
    have e1 : valueAt t.data.toList K = if qveAt t.data.toList K t[K] == K + 1 then none else some (K + 1, qveAt t.data.toList K t[K]) := by
      unfold valueAt; rw [if_pos HQ.out, getD_at t hlt]
    rw [e1]
    clear e1 HQ LE
    generalize qveAt t.data.toList K t[K] = E at QV ⊢
    by_cases hE : E = K + 1
    · subst hE
      have e2 : (if (K + 1 == K + 1) = true then none else some (K + 1, K + 1)) = (none : Option (Nat × Nat)) := by simp
      rw [e2]
      clear e2
      have hT : (((K + 1 : Nat) : Int) == (K : Int) + 1) = true := by simp
      go_enter Try.func28, Try.ntmps28
      go_wp2_with (first | (go_at_call 29; refine (HV.out _).mono ?_; rintro e w' ⟨rfl, n, rfl⟩) | (go_at_call 30; refine (RB.out _).mono ?_; rintro e w' ⟨rfl, rfl⟩) | (go_at_call 32; refine (isQuote_any _ _).mono ?_; rintro e w' ⟨rfl, rfl⟩) | (go_at_call 33; refine (QV.out _).mono ?_; rintro e w' ⟨rfl, rfl⟩))
      go_ret
      exact ⟨ret_int (by show (i : Int) + 1 = ((i + 1 : Nat) : Int); omega), by rw [found, List.append_nil]; exact h.out.drewN _, (Still.refl _ _ _).drewN _⟩
    · have e2 : (if (E == K + 1) = true then none else some (K + 1, E)) = some (K + 1, E) := by simp [hE]
      rw [e2]
      clear e2
      have hT : ((E : Int) == (K : Int) + 1) = false := by simp; omega
      clear hE
      go_enter Try.func28, Try.ntmps28
      go_wp2_with (first | (go_at_call 29; refine (HV.out _).mono ?_; rintro e w' ⟨rfl, n, rfl⟩) | (go_at_call 30; refine (RB.out _).mono ?_; rintro e w' ⟨rfl, rfl⟩) | (go_at_call 32; refine (isQuote_any _ _).mono ?_; rintro e w' ⟨rfl, rfl⟩) | (go_at_call 33; refine (QV.out _).mono ?_; rintro e w' ⟨rfl, rfl⟩) | (go_at_call 23; refine (AD.out _ _ _).mono ?_; rintro e w' ⟨rfl, hA, hS⟩))
      go_ret
      exact ⟨rfl, hA, hS⟩
  · have hq' : ob quoteB t.data.toList[K]? = false := by simpa using hq
    have hq1 : ∀ hlt : K < t.size, quoteB t[K] = false := fun hlt => by rw [ob_some quoteB t hlt] at hq'; exact hq'
    have e1 : valueAt t.data.toList K = if runTo notLend t.data.toList K == K then none else some (K, runTo notLend t.data.toList K) := by
      unfold valueAt; rw [if_neg hq]
    rw [e1]
    clear e1 hq hq'
    generalize runTo notLend t.data.toList K = E at LE ⊢
    by_cases hE : E = K
    · subst hE
      have e2 : (if (E == E) = true then none else some (E, E)) = (none : Option (Nat × Nat)) := by simp
      rw [e2]
      clear e2
      by_cases hlt : E < t.size
      · have hq2 := hq1 hlt
        clear hq1
        go_enter Try.func28, Try.ntmps28
        go_wp2_with (first | (go_at_call 29; refine (HV.out _).mono ?_; rintro e w' ⟨rfl, n, rfl⟩) | (go_at_call 30; refine (RB.out _).mono ?_; rintro e w' ⟨rfl, rfl⟩) | (go_at_call 32; refine (isQuote_any _ _).mono ?_; rintro e w' ⟨rfl, rfl⟩) | (go_at_call 34; refine (LE.out _).mono ?_; rintro e w' ⟨rfl, rfl⟩))
        go_ret
        exact ⟨ret_int (by show (i : Int) + 1 = ((i + 1 : Nat) : Int); omega), by rw [found, List.append_nil]; exact h.out.drewN _, (Still.refl _ _ _).drewN _⟩
      · clear hq1
        go_enter Try.func28, Try.ntmps28
        go_wp2_with (first | (go_at_call 29; refine (HV.out _).mono ?_; rintro e w' ⟨rfl, n, rfl⟩) | (go_at_call 30; refine (RB.out _).mono ?_; rintro e w' ⟨rfl, rfl⟩) | (go_at_call 32; refine (isQuote_any _ _).mono ?_; rintro e w' ⟨rfl, rfl⟩) | (go_at_call 34; refine (LE.out _).mono ?_; rintro e w' ⟨rfl, rfl⟩))
        go_ret
        exact ⟨ret_int (by show (i : Int) + 1 = ((i + 1 : Nat) : Int); omega), by rw [found, List.append_nil]; exact h.out.drewN _, (Still.refl _ _ _).drewN _⟩
    · have e2 : (if (E == K) = true then none else some (K, E)) = some (K, E) := by simp [hE]
      rw [e2]
      clear e2
      have hT : ((E : Int) == (K : Int)) = false := by simp; omega
      clear hE
      by_cases hlt : K < t.size
      · have hq2 := hq1 hlt
        clear hq1
        go_enter Try.func28, Try.ntmps28
        go_wp2_with (first | (go_at_call 29; refine (HV.out _).mono ?_; rintro e w' ⟨rfl, n, rfl⟩) | (go_at_call 30; refine (RB.out _).mono ?_; rintro e w' ⟨rfl, rfl⟩) | (go_at_call 32; refine (isQuote_any _ _).mono ?_; rintro e w' ⟨rfl, rfl⟩) | (go_at_call 34; refine (LE.out _).mono ?_; rintro e w' ⟨rfl, rfl⟩) | (go_at_call 23; refine (AD.out _ _ _).mono ?_; rintro e w' ⟨rfl, hA, hS⟩))
        go_ret
        exact ⟨rfl, hA, hS⟩
      · clear hq1
        go_enter Try.func28, Try.ntmps28
        go_wp2_with (first | (go_at_call 29; refine (HV.out _).mono ?_; rintro e w' ⟨rfl, n, rfl⟩) | (go_at_call 30; refine (RB.out _).mono ?_; rintro e w' ⟨rfl, rfl⟩) | (go_at_call 32; refine (isQuote_any _ _).mono ?_; rintro e w' ⟨rfl, rfl⟩) | (go_at_call 34; refine (LE.out _).mono ?_; rintro e w' ⟨rfl, rfl⟩) | (go_at_call 23; refine (AD.out _ _ _).mono ?_; rintro e w' ⟨rfl, hA, hS⟩))
        go_ret
        exact ⟨rfl, hA, hS⟩
theorem match_any (base B Bt Bs : Nat) (t lo : ByteArray) (sp : List (Int × Int)) (i : Nat) (w : World) (hs : t.size ≤ 1000000000) (hi : i + 13 ≤ t.size)
    (ht : w.cell? ⟨Bt, 0, none⟩ = some (.string t)) (hsc : w.cell? ⟨Bs, 0, none⟩ = some (.pointer (some ⟨B, 0, none⟩)))
    (h : ScanAt w base B t lo sp) (hl : sp.length ≤ 1000000000) (hb : base ≤ w.heap.size) :
    Calls Try.prog 28 #[.int .i64 i, .pointer (some ⟨Bt, 0, none⟩), .pointer (some ⟨Bs, 0, none⟩)] w fun e w' => e = .returned (.int .i64 (nextOf i (matchAt t.data.toList i))) ∧ ScanAt w' base B t lo (sp ++ found (matchAt t.data.toList i)) ∧ Still base B w w' := by
  unfold matchAt
  cases hn : hvfAt t.data.toList i (i + 13) with
  | none =>
    refine (match_none base B Bt Bs t lo sp i w hs hi hn ht hsc).mono ?_
    rintro e w' ⟨rfl, n, rfl⟩
    exact ⟨ret_int (by show (i : Int) + 1 = ((i + 1 : Nat) : Int); omega), by simp only [found, List.append_nil]; exact h.drewN _, (Still.refl _ _ _).drewN _⟩
  | some f => exact match_some base B Bt Bs t lo sp i f w hs hi hn ht hsc h hl hb
end Go.Proofs.Qxb6616246a
