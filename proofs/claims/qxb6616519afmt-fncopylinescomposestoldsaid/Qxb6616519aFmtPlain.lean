/-
  The plain law: what 'CopyLines' writes.
-/
import Derived.Test.Qxb6616519aFmtSplit
import Derived.Test.Qxb6616519aFmtGuards
namespace Go.Proofs.Qxb6616519aFmt
set_option linter.unusedVariables false
/-- The lines that the events name, one behind the other. -/
def pick (all : List (List UInt8)) (es : List Int) : List UInt8 := (es.map fun e => all.getD e.toNat []).flatten
theorem ascL_skip (N n : Nat) (e : Int) (es : List Int) (h : e ≠ n) : ascL N n (e :: es) = ascL N ((n + 1 : Nat) : Int) (e :: es) := by
  rw [ascL, ascL]
  by_cases h1 : (n : Int) ≤ e ∧ e < (N : Int)
  · rw [if_pos h1, if_pos ⟨by omega, h1.2⟩]
  · rw [if_neg h1, if_neg (fun h2 => h1 ⟨by omega, h2.2⟩)]
theorem ascL_end (N : Nat) (ev : List Int) : ascL N N ev = 0 := by
  cases ev with
  | nil => rfl
  | cons e es => rw [ascL, if_neg (by omega)]
theorem runL_nil : ∀ (ls : List (List UInt8)) (n : Nat) (X : List UInt8), runL n ls ([], X) = ([], X)
  | [], _, _ => rfl
  | Y :: ls, n, X => by rw [runL]; exact runL_nil ls (n + 1) X
theorem runL_eq (all : List (List UInt8)) : ∀ (k n : Nat) (ev : List Int) (X : List UInt8), n + k = all.length → runL n (all.drop n) (ev, X) = (ev.drop (ascL all.length n ev), X ++ pick all (ev.take (ascL all.length n ev)))
  | 0, n, ev, X, h => by
    have hn : n = all.length := by omega
    subst hn
    rw [List.drop_length, ascL_end, runL]
    simp [pick]
  | k + 1, n, ev, X, h => by
    have hl : n < all.length := by omega
    rw [List.drop_eq_getElem_cons hl, runL]
    cases ev with
    | nil =>
      rw [show stepC n all[n] ([], X) = ([], X) from rfl, runL_nil]
      simp [ascL, pick]
    | cons e es =>
      by_cases he : e = (n : Int)
      · subst he
        rw [show stepC n all[n] ((n : Int) :: es, X) = (es, X ++ all[n]) by simp [stepC], runL_eq all k (n + 1) es (X ++ all[n]) (by omega)]
        rw [ascL, if_pos ⟨by omega, by omega⟩, Nat.add_comm 1, List.drop_succ_cons, List.take_succ_cons]
        rw [show (((n + 1 : Nat) : Int)) = (n : Int) + 1 by omega]
        simp only [pick, List.map_cons, List.flatten_cons, Int.toNat_natCast, List.append_assoc, List.getD_eq_getElem?_getD, List.getElem?_eq_getElem hl, Option.getD_some]
      · rw [show stepC n all[n] (e :: es, X) = (e :: es, X) by simp [stepC, he], runL_eq all k (n + 1) (e :: es) X (by omega), ascL_skip _ _ _ _ he]
/-- What 'CopyLines' writes, and what it leaves. -/
theorem copied_lines (T : List UInt8) (ev : List Int) : runL 0 (lines T) (ev, []) = (ev.drop (ascL (lines T).length 0 ev), pick (lines T) (ev.take (ascL (lines T).length 0 ev))) := by
  have := runL_eq (lines T) (lines T).length 0 ev [] (by omega)
  rw [List.drop_zero, List.nil_append] at this
  exact this
end Go.Proofs.Qxb6616519aFmt
