/-
  The search does not look at a letter's case in the text itself.
-/
import Derived.Test.Qxb6616246aLaw
namespace Go.Proofs.Qxb6616246a
open Go.Lib
def swapL (l : List UInt8) : List UInt8 := l.map swapC
theorem blank_swap (c : UInt8) : blank (swapC c) = blank c := swap_inv blank (by decide +kernel) c
theorem notLend_swap (c : UInt8) : notLend (swapC c) = notLend c := swap_inv notLend (by decide +kernel) c
theorem lend_swap (c : UInt8) : lend (swapC c) = lend c := swap_inv lend (by decide +kernel) c
theorem quote_swap (c : UInt8) : quoteB (swapC c) = quoteB c := swap_inv quoteB (by decide +kernel) c
theorem name_swap (c : UInt8) : nameCh (swapC c) = nameCh c := swap_inv nameCh (by decide +kernel) c
theorem joinC_swap (c : UInt8) : joinC (swapC c) = joinC c := swap_inv joinC (by decide +kernel) c
theorem joinD_swap (c : UInt8) : joinD (swapC c) = joinD c := swap_inv joinD (by decide +kernel) c
theorem is92_swap (c : UInt8) : (swapC c == 92) = (c == 92) := swap_inv (fun c => c == 92) (by decide +kernel) c
theorem quote_two {q : UInt8} (h : quoteB q = true) : q = 34 ∨ q = 39 := by
  unfold quoteB at h
  simpa using h
theorem isq_swap {q : UInt8} (h : quoteB q = true) (c : UInt8) : (swapC c == q) = (c == q) := by
  rcases quote_two h with rfl | rfl
  · exact swap_inv (fun c => c == 34) (by decide +kernel) c
  · exact swap_inv (fun c => c == 39) (by decide +kernel) c
theorem fix_swap {q : UInt8} (h : quoteB q = true) : swapC q = q := by
  rcases quote_two h with rfl | rfl <;> rfl
section
variable (t : List UInt8)
theorem drop_sw (k : Nat) : (swapL t).drop k = swapL (t.drop k) := by simp [swapL]
theorem get_sw (k : Nat) : (swapL t)[k]? = t[k]?.map swapC := by simp [swapL]
theorem ob_sw (f : UInt8 → Bool) (hf : ∀ c, f (swapC c) = f c) (k : Nat) : ob f (swapL t)[k]? = ob f t[k]? := by
  rw [get_sw]
  cases t[k]? with
  | none => rfl
  | some c => exact hf c
theorem getD_sw (k : Nat) : (swapL t).getD k 0 = swapC (t.getD k 0) := by
  rw [List.getD, get_sw, List.getD]
  cases t[k]? <;> rfl
theorem run_sw (f : UInt8 → Bool) (hf : ∀ c, f (swapC c) = f c) (k : Nat) : runTo f (swapL t) k = runTo f t k := by
  unfold runTo
  rw [drop_sw]
  have : ∀ l : List UInt8, ((swapL l).takeWhile f).length = (l.takeWhile f).length := by
    intro l
    induction l with
    | nil => rfl
    | cons c l ih =>
      show ((swapC c :: swapL l).takeWhile f).length = _
      rw [List.takeWhile_cons, List.takeWhile_cons, hf c]
      split
      · simp only [List.length_cons, ih]
      · rfl
  rw [this]
theorem cqL_sw {q : UInt8} (hq : quoteB q = true) : ∀ (n : Nat) (l : List UInt8), l.length ≤ n → cqL q (swapL l) = cqL q l
  | _, [], _ => rfl
  | _, [c], _ => by
    show cqL q [swapC c] = _
    rw [cqL, cqL, isq_swap hq, lend_swap]
  | 0, _ :: _ :: _, h => by simp at h
  | n + 1, c :: d :: l, h => by
    simp only [List.length_cons] at h
    have h1 := cqL_sw hq n l (by omega)
    have h2 := cqL_sw hq n (d :: l) (by simp; omega)
    show cqL q (swapC c :: swapC d :: swapL l) = _
    rw [cqL, cqL, isq_swap hq, lend_swap, is92_swap, notLend_swap, h1]
    rw [show swapC d :: swapL l = swapL (d :: l) from rfl, h2]
theorem cq_sw {q : UInt8} (hq : quoteB q = true) (k : Nat) : cqTo q (swapL t) k = cqTo q t k := by
  unfold cqTo; rw [drop_sw, cqL_sw hq _ _ (Nat.le_refl _)]
theorem joins_sw (k : Nat) : joinsAt (swapL t) k = joinsAt t k := by
  unfold joinsAt; rw [ob_sw t joinC joinC_swap, run_sw t blank blank_swap, ob_sw t joinD joinD_swap]
theorem qve_sw {q : UInt8} (hq : quoteB q = true) (k : Nat) : qveAt (swapL t) k q = qveAt t k q := by
  unfold qveAt; rw [cq_sw t hq, joins_sw, run_sw t notLend notLend_swap]
theorem back_sw : ∀ k, backTo (swapL t) k = backTo t k
  | 0 => rfl
  | k + 1 => by rw [backTo, backTo, getD_sw, name_swap, back_sw k]
theorem alone_sw {q : UInt8} (hq : quoteB q = true) (k : Nat) : aloneAt (swapL t) k q = aloneAt t k q := by
  unfold aloneAt
  rw [back_sw]
  cases backTo t k with
  | zero => rfl
  | succ b => rw [aloneB, aloneB, getD_sw, isq_swap hq]
theorem pre_sw : ∀ (l p : List UInt8), (∀ x ∈ p, ∀ c, (x == swapC c) = (x == c)) → p.isPrefixOf (swapL l) = p.isPrefixOf l
  | [], [], _ => rfl
  | [], _ :: _, _ => rfl
  | _ :: _, [], _ => rfl
  | c :: l, x :: p, h => by
    show (x == swapC c && p.isPrefixOf (swapL l)) = (x == c && p.isPrefixOf l)
    rw [h x (by simp) c, pre_sw l p fun y hy => h y (by simp [hy])]
theorem sw_sw (k : Nat) (p : List UInt8) (h : ∀ x ∈ p, ∀ c, (x == swapC c) = (x == c)) : sw (swapL t) k p = sw t k p := by
  unfold sw hasPrefix; rw [drop_sw, pre_sw _ _ h]
theorem is_swap (x : UInt8) (h : (List.range 256).all (fun n => (x == swapC (UInt8.ofNat n)) == (x == UInt8.ofNat n)) = true) (c : UInt8) : (x == swapC c) = (x == c) :=
  swap_inv (fun c => x == c) h c
theorem signs : ∀ x ∈ ([58, 44, 93, 61, 62] : List UInt8), ∀ c, (x == swapC c) = (x == c) := by
  intro x hx c
  simp only [List.mem_cons, List.not_mem_nil, or_false] at hx
  rcases hx with rfl | rfl | rfl | rfl | rfl
  all_goals exact is_swap _ (by decide +kernel) c
theorem sw_sign (k : Nat) (p : List UInt8) (h : ∀ x ∈ p, x ∈ ([58, 44, 93, 61, 62] : List UInt8)) : sw (swapL t) k p = sw t k p := sw_sw t k p fun x hx => signs x (h x hx)
theorem hvK_sw (k : Nat) : hvK (swapL t) k = hvK t k := by
  unfold hvK; rw [ob_sw t quoteB quote_swap, run_sw t blank blank_swap]
theorem hvf_sw (st en : Nat) : hvfAt (swapL t) st en = hvfAt t st en := by
  unfold hvfAt
  rw [hvK_sw, sw_sign t _ [58] (by simp), sw_sign t _ [58, 58] (by simp), get_sw]
  cases t[en]? with
  | none => rfl
  | some q =>
    simp only [Option.map_some]
    rw [quote_swap]
    cases hq : quoteB q with
    | false => rfl
    | true =>
      rw [fix_swap hq, alone_sw t hq, sw_sign t _ [44] (by simp), sw_sign t _ [93] (by simp), run_sw t blank blank_swap]
      simp only [sw_sign t _ [61, 62] (by simp), sw_sign t _ [61] (by simp), sw_sign t _ [61, 61] (by simp)]
theorem value_sw (k : Nat) : valueAt (swapL t) k = valueAt t k := by
  unfold valueAt
  rw [ob_sw t quoteB quote_swap, getD_sw, run_sw t notLend notLend_swap]
  cases h : ob quoteB t[k]? with
  | false => rfl
  | true =>
    have hq : quoteB (t.getD k 0) = true := by
      rw [List.getD]
      cases e : t[k]? with
      | none => rw [e] at h; cases h
      | some c => rw [e] at h; exact h
    rw [fix_swap hq, qve_sw t hq]
theorem match_sw (i : Nat) : matchAt (swapL t) i = matchAt t i := by
  unfold matchAt
  rw [hvf_sw]
  cases hvfAt t i (i + 13) with
  | none => rfl
  | some f => simp only; rw [run_sw t blank blank_swap, value_sw]
theorem scanF_sw (lo : List UInt8) : ∀ n k, scanF (swapL t) lo n k = scanF t lo n k
  | 0, _ => rfl
  | n + 1, k => by
    rw [scanF, scanF, match_sw, scanF_sw lo n]
end
/-- THE SECOND LAW's SECOND HALF, on lists. -/
theorem law_swap (t : List UInt8) : scan (swapL t) (lowL (swapL t)) 0 = scan t (lowL t) 0 := by
  have e : lowL (swapL t) = lowL t := by
    unfold lowL swapL
    rw [List.map_map]
    exact List.map_congr_left fun c _ => low_swap c
  rw [e]
  exact scanF_sw t _ _ _
end Go.Proofs.Qxb6616246a
