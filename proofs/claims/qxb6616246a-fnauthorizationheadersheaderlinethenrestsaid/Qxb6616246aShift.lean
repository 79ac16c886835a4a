/-
  The search looks only ahead, and back to a byte that is no part of a name: it moves with the text.
-/
import Derived.Test.Qxb6616246aScan
namespace Go.Proofs.Qxb6616246a
open Go.Lib
section
variable (p t : List UInt8)
theorem drop_pre (k : Nat) : (p ++ t).drop (p.length + k) = t.drop k := by
  rw [← List.drop_drop, List.drop_left]
theorem get_pre (k : Nat) : (p ++ t)[p.length + k]? = t[k]? := by
  rw [List.getElem?_append_right (by omega)]; congr 1; omega
theorem getD_pre (k : Nat) : (p ++ t).getD (p.length + k) 0 = t.getD k 0 := by
  rw [List.getD, get_pre, List.getD]
theorem run_pre (f : UInt8 → Bool) (k : Nat) : runTo f (p ++ t) (p.length + k) = p.length + runTo f t k := by
  unfold runTo; rw [drop_pre]; omega
theorem cq_pre (q : UInt8) (k : Nat) : cqTo q (p ++ t) (p.length + k) = p.length + cqTo q t k := by
  unfold cqTo; rw [drop_pre]; omega
theorem joins_pre (k : Nat) : joinsAt (p ++ t) (p.length + k) = joinsAt t k := by
  unfold joinsAt; rw [run_pre, get_pre, get_pre]
theorem qve_pre (k : Nat) (q : UInt8) : qveAt (p ++ t) (p.length + k) q = p.length + qveAt t k q := by
  unfold qveAt
  rw [Nat.add_assoc, cq_pre, Nat.add_assoc, joins_pre, run_pre]
  split <;> rfl
theorem sw_pre (k : Nat) (l : List UInt8) : sw (p ++ t) (p.length + k) l = sw t k l := by
  unfold sw; rw [drop_pre]
theorem hvK_pre (k : Nat) : hvK (p ++ t) (p.length + k) = p.length + hvK t k := by
  unfold hvK
  rw [get_pre]
  split
  · rw [Nat.add_assoc, run_pre]
  · rw [run_pre]
theorem value_pre (k : Nat) : valueAt (p ++ t) (p.length + k) = (valueAt t k).map fun x => (p.length + x.1, p.length + x.2) := by
  unfold valueAt
  rw [get_pre, getD_pre, qve_pre, run_pre]
  split
  · generalize qveAt t k (t.getD k 0) = E
    by_cases h : E = k + 1
    · rw [if_pos (by rw [beq_iff_eq]; omega), if_pos (by rw [beq_iff_eq]; omega)]; rfl
    · rw [if_neg (by rw [beq_iff_eq]; omega), if_neg (by rw [beq_iff_eq]; omega)]; rfl
  · generalize runTo notLend t k = E
    by_cases h : E = k
    · rw [if_pos (by rw [beq_iff_eq]; omega), if_pos (by rw [beq_iff_eq]; omega)]; rfl
    · rw [if_neg (by rw [beq_iff_eq]; omega), if_neg (by rw [beq_iff_eq]; omega)]; rfl
end
section
variable (p t : List UInt8) (p0 : List UInt8) (c0 : UInt8)
theorem back_pre (hp : p = p0 ++ [c0]) (hc : nameCh c0 = false) : ∀ k, k ≤ t.length → backTo (p ++ t) (p.length + k) = p.length + backTo t k
  | 0, _ => by
    subst hp
    have e : (p0 ++ [c0] ++ t).getD p0.length 0 = c0 := by
      rw [List.append_assoc]
      rw [show p0.length = p0.length + 0 from rfl, getD_pre]; rfl
    simp only [List.length_append, List.length_cons, List.length_nil, Nat.add_zero, Nat.zero_add, backTo, e, hc]
    rfl
  | k + 1, h => by
    rw [← Nat.add_assoc, backTo, getD_pre, backTo]
    split
    · exact back_pre hp hc k (by omega)
    · omega
theorem alone_pre (hp : p = p0 ++ [c0]) (hc : nameCh c0 = false) (hq0 : quoteB c0 = false) {q : UInt8} (hq : quoteB q = true) (k : Nat) (hk : k ≤ t.length) : aloneAt (p ++ t) (p.length + k) q = aloneAt t k q := by
  unfold aloneAt
  rw [back_pre p t p0 c0 hp hc k hk]
  cases hb : backTo t k with
  | zero =>
    subst hp
    have e : (p0 ++ [c0] ++ t).getD p0.length 0 = c0 := by
      rw [List.append_assoc]
      rw [show p0.length = p0.length + 0 from rfl, getD_pre]; rfl
    simp only [List.length_append, List.length_cons, List.length_nil, Nat.add_zero, Nat.zero_add, aloneB, e]
    apply Bool.eq_false_iff.2
    intro h
    rw [beq_iff_eq] at h
    subst h
    rw [hq0] at hq
    cases hq
  | succ b => rw [← Nat.add_assoc, aloneB, aloneB, getD_pre]
theorem hvf_pre (hp : p = p0 ++ [c0]) (hc : nameCh c0 = false) (hq0 : quoteB c0 = false) (st en : Nat) (hst : st ≤ t.length) : hvfAt (p ++ t) (p.length + st) (p.length + en) = (hvfAt t st en).map (p.length + ·) := by
  unfold hvfAt
  rw [hvK_pre, sw_pre, sw_pre, get_pre]
  split
  · split
    · rfl
    · simp only [Option.map_some]; congr 1
  · cases ht : t[en]? with
    | none => rfl
    | some q =>
      simp only
      cases hq : quoteB q with
      | false => simp
      | true =>
        rw [alone_pre p t p0 c0 hp hc hq0 hq st hst]
        simp only [Bool.true_and]
        split
        · rw [sw_pre, sw_pre]
          split
          · simp only [Option.map_some]; congr 1
          · have e : (if sw t (hvK t en) [93] = true then runTo blank (p ++ t) (p.length + hvK t en + 1) else p.length + hvK t en) = p.length + (if sw t (hvK t en) [93] = true then runTo blank t (hvK t en + 1) else hvK t en) := by
              split
              · rw [Nat.add_assoc, run_pre]
              · rfl
            rw [e]
            generalize (if sw t (hvK t en) [93] = true then runTo blank t (hvK t en + 1) else hvK t en) = k
            rw [sw_pre, sw_pre, sw_pre]
            split
            · simp only [Option.map_some]; congr 1
            · split
              · simp only [Option.map_some]; congr 1
              · rfl
        · rfl
def moved (n : Nat) (x : Int × Int) : Int × Int := (x.1 + n, x.2 + n)
theorem match_pre (hp : p = p0 ++ [c0]) (hc : nameCh c0 = false) (hq0 : quoteB c0 = false) (i : Nat) (hi : i ≤ t.length) : matchAt (p ++ t) (p.length + i) = (matchAt t i).map fun x => (p.length + x.1, p.length + x.2) := by
  unfold matchAt
  rw [Nat.add_assoc, hvf_pre p t p0 c0 hp hc hq0 i (i + 13) hi]
  cases hvfAt t i (i + 13) with
  | none => rfl
  | some f => simp only [Option.map_some]; rw [run_pre, value_pre]
theorem found_pre (n : Nat) (o : Option (Nat × Nat)) : found (o.map fun x => (n + x.1, n + x.2)) = (found o).map (moved n) := by
  cases o with
  | none => rfl
  | some x => simp [found, moved]; omega
theorem next_pre (n i : Nat) (o : Option (Nat × Nat)) : nextOf (n + i) (o.map fun x => (n + x.1, n + x.2)) = n + nextOf i o := by
  cases o <;> simp [nextOf]; omega
theorem scanF_pre (pl lo : List UInt8) (hp : p = p0 ++ [c0]) (hc : nameCh c0 = false) (hq0 : quoteB c0 = false) (hpl : pl.length = p.length) (hlo : lo.length = t.length) :
    ∀ n k, scanF (p ++ t) (pl ++ lo) n (p.length + k) = (scanF t lo n k).map (moved p.length)
  | 0, _ => rfl
  | n + 1, k => by
    rw [scanF, scanF, ← hpl, drop_pre, List.length_append]
    by_cases hk : k < lo.length
    · rw [if_pos (by omega), if_pos hk]
      by_cases hi : index (lo.drop k) nameL < 0
      · rw [if_pos hi, if_pos hi]; rfl
      · rw [if_neg hi, if_neg hi]
        have hpl' := index_place hi
        rw [List.length_drop] at hpl'
        generalize (index (lo.drop k) nameL).toNat = i at hpl'
        rw [hpl, Nat.add_assoc, match_pre p t p0 c0 hp hc hq0 (k + i) (by omega), found_pre, next_pre, scanF_pre pl lo hp hc hq0 hpl hlo n, List.map_append]
    · rw [if_neg (by omega), if_neg hk]; rfl
theorem scan_pre (pl lo : List UInt8) (hp : p = p0 ++ [c0]) (hc : nameCh c0 = false) (hq0 : quoteB c0 = false) (hpl : pl.length = p.length) (hlo : lo.length = t.length) (k : Nat) :
    scan (p ++ t) (pl ++ lo) (p.length + k) = (scan t lo k).map (moved p.length) := by
  unfold scan
  rw [← scanF_pre p t p0 c0 pl lo hp hc hq0 hpl hlo]
  congr 1
  rw [List.length_append, hpl]
  omega
end
/-- A byte at which the name cannot begin is passed over. -/
theorem scan_skip {t lo : List UInt8} {k : Nat} (hl : lo.length = t.length) (hk : k < lo.length) (hc : (lo[k] == 97) = false) : scan t lo k = scan t lo (k + 1) := by
  have e : index (lo.drop k) nameL = if index (lo.drop (k + 1)) nameL == -1 then -1 else index (lo.drop (k + 1)) nameL + 1 := by
    rw [drop_cons lo k hk, index, if_neg]
    intro h
    have : (97 == lo[k]) = true := by
      have h2 : nameL.isPrefixOf (lo[k] :: lo.drop (k + 1)) = ((97 == lo[k]) && (nameL.drop 1).isPrefixOf (lo.drop (k + 1))) := rfl
      rw [h2, Bool.and_eq_true] at h
      exact h.1
    rw [beq_iff_eq] at this
    rw [← this] at hc
    cases hc
  by_cases h1 : index (lo.drop (k + 1)) nameL = -1
  · rw [h1] at e
    rw [scan_none (by rw [e]; decide), scan_none (by rw [h1]; decide)]
  · have h2 := index_ge (lo.drop (k + 1)) nameL
    obtain ⟨i, hi⟩ : ∃ i : Nat, index (lo.drop (k + 1)) nameL = (i : Nat) := ⟨_, (Int.toNat_of_nonneg (by omega)).symm⟩
    have hp := index_place (l := lo.drop (k + 1)) (by omega)
    rw [hi, List.length_drop] at hp
    rw [hi] at e
    have e2 : index (lo.drop k) nameL = ((i + 1 : Nat) : Int) := by
      rw [e, if_neg (by rw [beq_iff_eq]; omega)]; omega
    rw [scan_step hl e2 hk, scan_step hl hi (by omega), show k + (i + 1) = k + 1 + i from by omega]
end Go.Proofs.Qxb6616246a
