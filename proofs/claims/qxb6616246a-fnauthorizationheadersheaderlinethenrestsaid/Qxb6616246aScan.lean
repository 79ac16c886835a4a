/-
  The search for the header's name, on lists: what 'occurrences' with the closure gathers.
-/
import Derived.Test.Qxb6616246aPlain
import Derived.Lib.IndexMore
namespace Go.Proofs.Qxb6616246a
open Go.Lib

def nameL : List UInt8 := [97, 117, 116, 104, 111, 114, 105, 122, 97, 116, 105, 111, 110]

theorem hvK_ge (t : List UInt8) (en : Nat) : en ≤ hvK t en := by
  unfold hvK
  split
  · have := runTo_ge blank t (en + 1); omega
  · exact runTo_ge blank t en

theorem hvf_ge {t : List UInt8} {st en f : Nat} (h : hvfAt t st en = some f) : en < f := by
  have hK := hvK_ge t en
  unfold hvfAt at h
  split at h
  · split at h
    · cases h
    · simp only [Option.some.injEq] at h; omega
  · split at h
    · cases h
    · split at h
      · split at h
        · simp only [Option.some.injEq] at h; omega
        · simp only at h
          have hk : hvK t en ≤ (if sw t (hvK t en) [93] = true then runTo blank t (hvK t en + 1) else hvK t en) := by
            split
            · have := runTo_ge blank t (hvK t en + 1); omega
            · exact Nat.le_refl _
          generalize (if sw t (hvK t en) [93] = true then runTo blank t (hvK t en + 1) else hvK t en) = k at h hk
          split at h
          · simp only [Option.some.injEq] at h; omega
          · split at h
            · simp only [Option.some.injEq] at h; omega
            · cases h
      · cases h

theorem qveAt_ge (t : List UInt8) (st : Nat) (q : UInt8) : st + 1 ≤ qveAt t st q := by
  unfold qveAt
  have h1 := cqTo_ge q t (st + 1)
  have h2 := runTo_ge notLend t (cqTo q t (st + 1))
  split <;> omega

theorem qveAt_le (t : List UInt8) (st : Nat) (q : UInt8) (h : st < t.length) : qveAt t st q ≤ t.length := by
  unfold qveAt
  have h1 := cqTo_le q t (st + 1) (by omega)
  have h2 := runTo_le notLend t (cqTo q t (st + 1)) h1
  split <;> omega

theorem ob_lt {f : UInt8 → Bool} {t : List UInt8} {k : Nat} (h : ob f t[k]? = true) : k < t.length := by
  apply Classical.byContradiction
  intro hn
  rw [List.getElem?_eq_none (by omega)] at h
  cases h

theorem valueAt_bounds {t : List UInt8} {st : Nat} {p : Nat × Nat} (hst : st ≤ t.length) (h : valueAt t st = some p) : st ≤ p.2 ∧ p.2 ≤ t.length := by
  unfold valueAt at h
  split at h
  · rename_i hq
    have h1 := qveAt_ge t st (t.getD st 0)
    have h2 := qveAt_le t st (t.getD st 0) (ob_lt hq)
    split at h
    · cases h
    · simp only [Option.some.injEq] at h; subst h; exact ⟨by omega, h2⟩
  · have h1 := runTo_ge notLend t st
    have h2 := runTo_le notLend t st hst
    split at h
    · cases h
    · simp only [Option.some.injEq] at h; subst h; exact ⟨h1, h2⟩

theorem matchAt_bounds {t : List UInt8} {i : Nat} {p : Nat × Nat} (h : matchAt t i = some p) : i + 13 < p.2 ∧ p.2 ≤ t.length := by
  unfold matchAt at h
  split at h
  · cases h
  · rename_i f hf
    have h1 := hvf_ge hf
    have h2 := hvf_le hf
    have h3 := runTo_ge blank t f
    have h4 := runTo_le blank t f h2
    have h5 := valueAt_bounds h4 h
    omega

theorem matchAt_first {t : List UInt8} {i : Nat} {p : Nat × Nat} (h : matchAt t i = some p) : p.1 ≤ t.length := by
  unfold matchAt at h
  split at h
  · cases h
  · rename_i f hf
    have h4 := runTo_le blank t f (hvf_le hf)
    unfold valueAt at h
    split at h
    · rename_i hq
      have := ob_lt hq
      split at h
      · cases h
      · simp only [Option.some.injEq] at h; subst h; exact this
    · split at h
      · cases h
      · simp only [Option.some.injEq] at h; subst h; exact h4

theorem next_bounds {t : List UInt8} {i : Nat} (hi : i < t.length) : i + 1 ≤ nextOf i (matchAt t i) ∧ nextOf i (matchAt t i) ≤ t.length := by
  cases h : matchAt t i with
  | none => exact ⟨Nat.le_refl _, hi⟩
  | some p => have := matchAt_bounds h; simp only [nextOf]; omega

/-- From place k on, with a bound on the rounds. -/
def scanF (t lo : List UInt8) : Nat → Nat → List (Int × Int)
  | 0, _ => []
  | n + 1, k =>
    if k < lo.length then
      if index (lo.drop k) nameL < 0 then []
      else found (matchAt t (k + (index (lo.drop k) nameL).toNat)) ++ scanF t lo n (nextOf (k + (index (lo.drop k) nameL).toNat) (matchAt t (k + (index (lo.drop k) nameL).toNat)))
    else []

theorem index_place {l : List UInt8} (h : ¬ index l nameL < 0) : (index l nameL).toNat + 13 ≤ l.length := by
  have := index_room l nameL (by omega)
  have e : nameL.length = 13 := rfl
  omega

theorem scanF_fuel (t lo : List UInt8) (hl : lo.length = t.length) : ∀ (n m k : Nat), lo.length < n + k → lo.length < m + k → scanF t lo n k = scanF t lo m k
  | 0, 0, _, _, _ => rfl
  | 0, m + 1, k, h, _ => by rw [scanF, scanF, if_neg (by omega)]
  | n + 1, 0, k, _, h => by rw [scanF, scanF, if_neg (by omega)]
  | n + 1, m + 1, k, h1, h2 => by
    rw [scanF, scanF]
    by_cases hk : k < lo.length
    · rw [if_pos hk, if_pos hk]
      by_cases hi : index (lo.drop k) nameL < 0
      · rw [if_pos hi, if_pos hi]
      · rw [if_neg hi, if_neg hi]
        have hp := index_place hi
        rw [List.length_drop] at hp
        have hb := next_bounds (t := t) (i := k + (index (lo.drop k) nameL).toNat) (by omega)
        rw [scanF_fuel t lo hl n m _ (by omega) (by omega)]
    · rw [if_neg hk, if_neg hk]

/-- What the search gathers from place k on. -/
def scan (t lo : List UInt8) (k : Nat) : List (Int × Int) := scanF t lo (lo.length + 1 - k) k

theorem scan_end {t lo : List UInt8} {k : Nat} (h : lo.length ≤ k) : scan t lo k = [] := by
  unfold scan
  cases e : lo.length + 1 - k with
  | zero => rfl
  | succ n => rw [scanF, if_neg (by omega)]

theorem scan_none {t lo : List UInt8} {k : Nat} (h : index (lo.drop k) nameL < 0) : scan t lo k = [] := by
  unfold scan
  cases e : lo.length + 1 - k with
  | zero => rfl
  | succ n => rw [scanF, if_pos h]; simp

theorem scan_step {t lo : List UInt8} {k i : Nat} (hl : lo.length = t.length) (h : index (lo.drop k) nameL = (i : Nat)) (hk : k < lo.length) :
    scan t lo k = found (matchAt t (k + i)) ++ scan t lo (nextOf (k + i) (matchAt t (k + i))) := by
  have hi : ¬ index (lo.drop k) nameL < 0 := by omega
  have hp := index_place hi
  rw [List.length_drop] at hp
  have e : (index (lo.drop k) nameL).toNat = i := by omega
  have hb := next_bounds (t := t) (i := k + i) (by omega)
  unfold scan
  rw [show lo.length + 1 - k = (lo.length - k) + 1 from by omega, scanF, if_pos hk, if_neg hi, e]
  rw [scanF_fuel t lo hl (lo.length - k) (lo.length + 1 - nextOf (k + i) (matchAt t (k + i))) _ (by omega) (by omega)]

theorem found_length (o : Option (Nat × Nat)) : (found o).length ≤ 1 := by cases o <;> simp [found]

end Go.Proofs.Qxb6616246a
