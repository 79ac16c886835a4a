/-
  What redaction covers, on lists; and the law.
-/
import Derived.Lib.Strings
import Derived.Lib.IndexMore
namespace Go.Proofs.Qxb6616271a
open Go.Lib

/-- The bytes from 'a' to before 'b' that nothing covers yet are covered by v. -/
def coverL (c : List Int) (a b : Nat) (v : Int) : List Int := c.mapIdx fun p x => if a ≤ p ∧ p < b ∧ x = 0 then v else x
theorem coverL_length (c : List Int) (a b : Nat) (v : Int) : (coverL c a b v).length = c.length := by simp [coverL]
theorem coverL_get (c : List Int) (a b : Nat) (v : Int) (p : Nat) : (coverL c a b v).getD p 0 = if p < c.length then (if a ≤ p ∧ p < b ∧ c.getD p 0 = 0 then v else c.getD p 0) else 0 := by
  unfold coverL
  rw [List.getD, List.getElem?_mapIdx]
  by_cases h : p < c.length
  · simp [List.getD, h]
  · simp [h]
theorem coverL_none (c : List Int) (a : Nat) (v : Int) : coverL c a a v = c := by
  unfold coverL
  apply List.ext_getElem?
  intro p
  rw [List.getElem?_mapIdx]
  cases c[p]? with
  | none => rfl
  | some x => simp; omega
theorem coverL_step (c : List Int) (a k : Nat) (v : Int) (h : a ≤ k) (hk : k < c.length) : coverL c a (k + 1) v = (coverL c a k v).set k (if c.getD k 0 = 0 then v else c.getD k 0) := by
  apply List.ext_getElem?
  intro p
  unfold coverL
  rw [List.getElem?_mapIdx, List.getElem?_set, List.getElem?_mapIdx]
  by_cases e : k = p
  · subst e
    simp [List.getD, hk, h]
  · rw [if_neg e]
    cases c[p]? with
    | none => rfl
    | some x =>
      simp only [Option.map_some]
      congr 1
      have : (a ≤ p ∧ p < k + 1 ∧ x = 0) ↔ (a ≤ p ∧ p < k ∧ x = 0) := by omega
      simp only [this]

def zeros (n : Nat) : List Int := List.replicate n 0
/-- 'cover(from, to, i)'. -/
def coverM (n : Nat) (C : Option (List Int)) (a b : Nat) (v : Int) : Option (List Int) := if a = b then C else some (coverL (C.getD (zeros n)) a b v)
/-- What byte p is covered by, 0 for nothing. -/
def at0 (C : Option (List Int)) (p : Nat) : Int := match C with | none => 0 | some c => c.getD p 0
def Sized (n : Nat) (C : Option (List Int)) : Prop := ∀ c, C = some c → c.length = n
theorem Sized.cover {n : Nat} {C : Option (List Int)} (h : Sized n C) (a b : Nat) (v : Int) : Sized n (coverM n C a b v) := by
  unfold coverM
  split
  · exact h
  · intro c hc
    simp only [Option.some.injEq] at hc
    subst hc
    rw [coverL_length]
    cases C with
    | none => simp [zeros]
    | some c => exact h c rfl
theorem getD_zeros (n p : Nat) : (zeros n).getD p 0 = 0 := by
  unfold zeros
  rw [List.getD, List.getElem?_replicate]
  split <;> rfl
theorem at0_cover {n : Nat} {C : Option (List Int)} (h : Sized n C) (a b : Nat) (v : Int) (p : Nat) (hp : p < n) :
    at0 (coverM n C a b v) p = if a ≤ p ∧ p < b ∧ at0 C p = 0 then v else at0 C p := by
  unfold coverM
  split
  · rename_i e
    rw [if_neg (by omega)]
  · show (coverL _ _ _ _).getD p 0 = _
    rw [coverL_get]
    cases C with
    | none => simp only [Option.getD_none, at0, getD_zeros]; rw [if_pos (by simpa [zeros] using hp)]
    | some c =>
      simp only [Option.getD_some, at0]
      rw [if_pos (by rw [h c rfl]; exact hp)]
      congr

/-- The search for one text from place k on. -/
def occF (X t : List UInt8) (v : Int) : Nat → Nat → Option (List Int) → Option (List Int)
  | 0, _, C => C
  | f + 1, k, C => if index (X.drop k) t < 0 then C
    else occF X t v f (k + (index (X.drop k) t).toNat + t.length) (coverM X.length C (k + (index (X.drop k) t).toNat) (k + (index (X.drop k) t).toNat + t.length) v)
theorem index_place {l t : List UInt8} (h : ¬ index l t < 0) : (index l t).toNat + t.length ≤ l.length := by
  have := index_room l t (by omega)
  omega
theorem occF_fuel (X t : List UInt8) (v : Int) (ht : 0 < t.length) : ∀ (n m k : Nat) (C : Option (List Int)), X.length < n + k → X.length < m + k → occF X t v n k C = occF X t v m k C
  | 0, 0, _, _, _, _ => rfl
  | 0, m + 1, k, C, h, _ => by
    rw [occF, occF, if_pos]
    apply Classical.byContradiction
    intro hn
    have := index_place hn
    rw [List.length_drop] at this
    omega
  | n + 1, 0, k, C, _, h => by
    rw [occF, occF, if_pos]
    apply Classical.byContradiction
    intro hn
    have := index_place hn
    rw [List.length_drop] at this
    omega
  | n + 1, m + 1, k, C, h1, h2 => by
    rw [occF, occF]
    by_cases hi : index (X.drop k) t < 0
    · rw [if_pos hi, if_pos hi]
    · rw [if_neg hi, if_neg hi]
      exact occF_fuel X t v ht n m _ _ (by omega) (by omega)
def occM (X t : List UInt8) (v : Int) (k : Nat) (C : Option (List Int)) : Option (List Int) := occF X t v (X.length + 1 - k) k C
theorem occM_none {X t : List UInt8} {v : Int} {k : Nat} {C : Option (List Int)} (h : index (X.drop k) t < 0) : occM X t v k C = C := by
  unfold occM
  cases X.length + 1 - k with
  | zero => rfl
  | succ n => rw [occF, if_pos h]
theorem occM_step {X t : List UInt8} {v : Int} {k i : Nat} {C : Option (List Int)} (ht : 0 < t.length) (h : index (X.drop k) t = (i : Nat)) :
    occM X t v k C = occM X t v (k + i + t.length) (coverM X.length C (k + i) (k + i + t.length) v) := by
  have hi : ¬ index (X.drop k) t < 0 := by omega
  have hp := index_place hi
  rw [List.length_drop] at hp
  have e : (index (X.drop k) t).toNat = i := by omega
  unfold occM
  rw [show X.length + 1 - k = (X.length - k) + 1 from by omega, occF, if_neg hi, e]
  exact occF_fuel X t v ht _ _ _ _ (by omega) (by omega)

/-- The longest end of t, shorter than t, that X begins with: searched from n down. -/
def good (X t : List UInt8) (n : Nat) : Bool := hasPrefix X (t.drop (t.length - n))
def best (X t : List UInt8) : Nat → Nat
  | 0 => 0
  | n + 1 => if good X t (n + 1) then n + 1 else best X t n
def brk (X t : List UInt8) : Nat := best X t (min X.length (t.length - 1))
theorem best_le (X t : List UInt8) : ∀ n, best X t n ≤ n
  | 0 => Nat.le_refl _
  | n + 1 => by
    rw [best]
    split
    · exact Nat.le_refl _
    · have := best_le X t n; omega
theorem brk_le (X t : List UInt8) : brk X t ≤ X.length := by
  have := best_le X t (min X.length (t.length - 1))
  unfold brk
  omega

def stepM (cut : Bool) (X : List UInt8) (i : Nat) (t : List UInt8) (C : Option (List Int)) : Option (List Int) :=
  if cut then coverM X.length (occM X t ((i : Int) + 1) 0 C) 0 (brk X t) ((i : Int) + 1) else occM X t ((i : Int) + 1) 0 C
def redM (cut : Bool) (X : List UInt8) : Nat → List (List UInt8) → Option (List Int) → Option (List Int)
  | _, [], C => C
  | i, t :: ts, C => redM cut X (i + 1) ts (stepM cut X i t C)
theorem redM_snoc (cut : Bool) (X : List UInt8) : ∀ (ts : List (List UInt8)) (i : Nat) (t : List UInt8) (C : Option (List Int)), redM cut X i (ts ++ [t]) C = stepM cut X (i + ts.length) t (redM cut X i ts C)
  | [], i, t, C => rfl
  | s :: ts, i, t, C => by
    rw [List.cons_append, redM, redM, redM_snoc cut X ts (i + 1) t _, List.length_cons, show i + 1 + ts.length = i + (ts.length + 1) from by omega]

/-! ### The law -/
theorem Sized.occF {X t : List UInt8} {v : Int} : ∀ (n k : Nat) {C : Option (List Int)}, Sized X.length C → Sized X.length (occF X t v n k C)
  | 0, _, _, h => h
  | n + 1, k, C, h => by
    rw [Qxb6616271a.occF]
    split
    · exact h
    · exact Sized.occF n _ (h.cover _ _ _)
theorem Sized.step {cut : Bool} {X t : List UInt8} {i : Nat} {C : Option (List Int)} (h : Sized X.length C) : Sized X.length (stepM cut X i t C) := by
  unfold stepM occM
  split
  · exact (Sized.occF _ _ h).cover _ _ _
  · exact Sized.occF _ _ h
theorem Sized.red {cut : Bool} {X : List UInt8} : ∀ (ts : List (List UInt8)) (i : Nat) {C : Option (List Int)}, Sized X.length C → Sized X.length (redM cut X i ts C)
  | [], _, _, h => h
  | t :: ts, i, _, h => by rw [redM]; exact Sized.red ts (i + 1) h.step
/-- THE RELATION of the two states: c the cut one, w the whole one; m: how far a cut-off text reaches; j: how many texts are done. -/
def Rel (n : Nat) (j m : Nat) (c w : Option (List Int)) : Prop :=
  Sized n c ∧ Sized n w ∧ ∀ p, p < n → (0 ≤ at0 c p ∧ at0 c p ≤ j) ∧ (at0 w p ≠ 0 → at0 c p ≠ 0 ∧ at0 c p ≤ at0 w p) ∧ (p < m → at0 c p ≠ 0) ∧ (m ≤ p → at0 c p = at0 w p)
theorem Rel.cover {n j m : Nat} {c w : Option (List Int)} (h : Rel n (j + 1) m c w) (a b : Nat) : Rel n (j + 1) m (coverM n c a b ((j : Int) + 1)) (coverM n w a b ((j : Int) + 1)) := by
  obtain ⟨h1, h2, h3⟩ := h
  refine ⟨h1.cover _ _ _, h2.cover _ _ _, fun p hp => ?_⟩
  obtain ⟨⟨e0, e1⟩, e2, e3, e4⟩ := h3 p hp
  rw [at0_cover h1 _ _ _ _ hp, at0_cover h2 _ _ _ _ hp]
  by_cases hab : a ≤ p ∧ p < b
  · by_cases hc : at0 c p = 0
    · have hw : at0 w p = 0 := Classical.byContradiction fun hn => (e2 hn).1 hc
      rw [if_pos ⟨hab.1, hab.2, hc⟩, if_pos ⟨hab.1, hab.2, hw⟩]
      refine ⟨⟨by omega, by omega⟩, fun _ => ⟨by omega, by omega⟩, fun _ => by omega, fun _ => rfl⟩
    · rw [if_neg (fun h => hc h.2.2)]
      by_cases hw : at0 w p = 0
      · rw [if_pos ⟨hab.1, hab.2, hw⟩]
        refine ⟨⟨e0, e1⟩, fun _ => ⟨hc, by omega⟩, e3, fun hm => ?_⟩
        have := e4 hm
        omega
      · rw [if_neg (fun h => hw h.2.2)]
        exact ⟨⟨e0, e1⟩, e2, e3, e4⟩
  · rw [if_neg (fun h => hab ⟨h.1, h.2.1⟩), if_neg (fun h => hab ⟨h.1, h.2.1⟩)]
    exact ⟨⟨e0, e1⟩, e2, e3, e4⟩
theorem Rel.occF {X t : List UInt8} {j m : Nat} : ∀ (n k : Nat) {c w : Option (List Int)}, Rel X.length (j + 1) m c w → Rel X.length (j + 1) m (Qxb6616271a.occF X t ((j : Int) + 1) n k c) (Qxb6616271a.occF X t ((j : Int) + 1) n k w)
  | 0, _, _, _, h => h
  | n + 1, k, c, w, h => by
    rw [Qxb6616271a.occF, Qxb6616271a.occF]
    split
    · exact h
    · exact Rel.occF n _ (h.cover _ _)
theorem Rel.step {X t : List UInt8} {j m : Nat} {c w : Option (List Int)} (h : Rel X.length j m c w) : Rel X.length (j + 1) (max m (brk X t)) (stepM true X j t c) (stepM false X j t w) := by
  have h' : Rel X.length (j + 1) m c w := ⟨h.1, h.2.1, fun p hp => by obtain ⟨⟨e0, e1⟩, e2, e3, e4⟩ := h.2.2 p hp; exact ⟨⟨e0, by omega⟩, e2, e3, e4⟩⟩
  have h2 := Rel.occF (t := t) (X.length + 1 - 0) 0 h'
  unfold stepM occM
  simp only [if_true]
  rw [if_neg (by decide)]
  generalize Qxb6616271a.occF X t ((j : Int) + 1) (X.length + 1 - 0) 0 c = c2 at h2
  generalize Qxb6616271a.occF X t ((j : Int) + 1) (X.length + 1 - 0) 0 w = w2 at h2
  obtain ⟨h3, h4, h5⟩ := h2
  refine ⟨h3.cover _ _ _, h4, fun p hp => ?_⟩
  obtain ⟨⟨e0, e1⟩, e2, e3, e4⟩ := h5 p hp
  rw [at0_cover h3 _ _ _ _ hp]
  by_cases hc : 0 ≤ p ∧ p < brk X t ∧ at0 c2 p = 0
  · rw [if_pos hc]
    have hw : at0 w2 p = 0 := Classical.byContradiction fun hn => (e2 hn).1 hc.2.2
    refine ⟨⟨by omega, by omega⟩, fun hn => absurd hw hn, fun _ => by omega, fun hm => ?_⟩
    omega
  · rw [if_neg hc]
    refine ⟨⟨e0, e1⟩, e2, fun hm => ?_, fun hm => e4 (by omega)⟩
    by_cases hpm : p < m
    · exact e3 hpm
    · intro h0
      exact hc ⟨Nat.zero_le _, by omega, h0⟩
def maxBrk (X : List UInt8) : List (List UInt8) → Nat → Nat
  | [], m => m
  | t :: ts, m => maxBrk X ts (max m (brk X t))
theorem law_rel (X : List UInt8) : ∀ (ts : List (List UInt8)) (j m : Nat) (c w : Option (List Int)), Rel X.length j m c w → Rel X.length (j + ts.length) (maxBrk X ts m) (redM true X j ts c) (redM false X j ts w)
  | [], _, _, _, _, h => h
  | t :: ts, j, m, c, w, h => by
    rw [redM, redM, maxBrk, List.length_cons, show j + (ts.length + 1) = j + 1 + ts.length from by omega]
    exact law_rel X ts (j + 1) _ _ _ h.step
/-- THE LAW: what the cut redaction covers, against the whole one. -/
theorem law (X : List UInt8) (ts : List (List UInt8)) (p : Nat) (hp : p < X.length) :
    (at0 (redM false X 0 ts none) p ≠ 0 → at0 (redM true X 0 ts none) p ≠ 0 ∧ at0 (redM true X 0 ts none) p ≤ at0 (redM false X 0 ts none) p) ∧
    (p < maxBrk X ts 0 → at0 (redM true X 0 ts none) p ≠ 0) ∧ (maxBrk X ts 0 ≤ p → at0 (redM true X 0 ts none) p = at0 (redM false X 0 ts none) p) := by
  have h0 : Rel X.length 0 0 none none := ⟨fun c h => (by cases h), fun c h => (by cases h), fun p _ => ⟨⟨Int.le_refl _, Int.le_refl _⟩, fun h => absurd rfl h, fun h => absurd h (Nat.not_lt_zero _), fun _ => rfl⟩⟩
  exact (law_rel X ts 0 0 none none h0).2.2 p hp |>.2
theorem maxBrk_ge (X : List UInt8) : ∀ (ts : List (List UInt8)) (m : Nat), m ≤ maxBrk X ts m
  | [], m => Nat.le_refl _
  | t :: ts, m => by rw [maxBrk]; have := maxBrk_ge X ts (max m (brk X t)); omega
/-- Where no text is cut off the two redactions are one. -/
theorem law_same (X : List UInt8) : ∀ (ts : List (List UInt8)) (i : Nat) (C : Option (List Int)), maxBrk X ts 0 = 0 → redM true X i ts C = redM false X i ts C
  | [], _, _, _ => rfl
  | t :: ts, i, C, h => by
    rw [maxBrk] at h
    have hb : brk X t = 0 := by have := maxBrk_ge X ts (max 0 (brk X t)); omega
    rw [hb] at h
    rw [redM, redM]
    have e : stepM true X i t C = stepM false X i t C := by
      unfold stepM
      rw [hb]
      simp [coverM]
    rw [e]
    exact law_same X ts (i + 1) _ h
theorem maxBrk_snoc (X : List UInt8) (t : List UInt8) : ∀ (ts : List (List UInt8)) (m : Nat), maxBrk X (ts ++ [t]) m = max (maxBrk X ts m) (brk X t)
  | [], m => rfl
  | s :: ts, m => by rw [List.cons_append, maxBrk, maxBrk, maxBrk_snoc X t ts]
end Go.Proofs.Qxb6616271a
