/-
  What 'PlaceOf' finds, in plain words.
-/
import Derived.Test.Qxb6616084aMost
namespace Go.Proofs.Qxb6616084a
set_option linter.unusedVariables false
open Go.RowKit
/-- No pattern of the first i layers names d. -/
def NoneTo (ls : List Layer) (d : List UInt8) (i : Nat) : Prop := ∀ k l p, k < i → ls[k]? = some l → p ∈ l.pats → ¬ MtP p d
/-- q, of layer f, is the most specific of the first i layers' patterns that name d; no layer before f has one as specific. -/
def FoundAt (ls : List Layer) (d : List UInt8) (i f : Nat) (q : Pat) : Prop :=
  f < i ∧ (∃ l, ls[f]? = some l ∧ q ∈ l.pats) ∧ MtP q d ∧ (∀ k l p, k < i → ls[k]? = some l → p ∈ l.pats → MtP p d → SpP p ≤ SpP q) ∧ (∀ k l p, k < f → ls[k]? = some l → p ∈ l.pats → MtP p d → SpP p < SpP q)
/-- No layer strictly between f and i has one as specific. -/
def LoneTo (ls : List Layer) (d : List UInt8) (i f : Nat) (q : Pat) : Prop := ∀ k l p, f < k → k < i → ls[k]? = some l → p ∈ l.pats → MtP p d → SpP p < SpP q
/-- Layer t is the next with one as specific. -/
def TiedAt (ls : List Layer) (d : List UInt8) (i f t : Nat) (q : Pat) : Prop := f < t ∧ t < i ∧ (∃ l p, ls[t]? = some l ∧ p ∈ l.pats ∧ MtP p d ∧ SpP p = SpP q) ∧ LoneTo ls d t f q
def PlaceTo (ls : List Layer) (d : List UInt8) (i : Nat) (f : Int) (q : Pat) (t : Int) : Prop :=
  OkPat q ∧ ((f = -1 ∧ t = -1 ∧ NoneTo ls d i) ∨ ∃ fn : Nat, f = fn ∧ FoundAt ls d i fn q ∧ ((t = -1 ∧ LoneTo ls d i fn q) ∨ ∃ tn : Nat, t = tn ∧ TiedAt ls d i fn tn q))
theorem NoneTo.succ {ls : List Layer} {d : List UInt8} {i : Nat} {l : Layer} (h : NoneTo ls d i) (hl : ls[i]? = some l) (hn : ∀ p ∈ l.pats, ¬ MtP p d) : NoneTo ls d (i + 1) := fun k l' p hk hl' hp => by
  by_cases e : k < i
  · exact h k l' p e hl' hp
  · obtain rfl : k = i := by omega
    rw [hl] at hl'; cases hl'
    exact hn p hp
theorem FoundAt.succ {ls : List Layer} {d : List UInt8} {i f : Nat} {q : Pat} {l : Layer} (h : FoundAt ls d i f q) (hl : ls[i]? = some l) (hn : ∀ p ∈ l.pats, MtP p d → SpP p ≤ SpP q) : FoundAt ls d (i + 1) f q := by
  obtain ⟨h1, h2, h3, h4, h5⟩ := h
  refine ⟨by omega, h2, h3, fun k l' p hk hl' hp hm => ?_, h5⟩
  by_cases e : k < i
  · exact h4 k l' p e hl' hp hm
  · obtain rfl : k = i := by omega
    rw [hl] at hl'; cases hl'
    exact hn p hp hm
theorem LoneTo.succ {ls : List Layer} {d : List UInt8} {i f : Nat} {q : Pat} {l : Layer} (h : LoneTo ls d i f q) (hl : ls[i]? = some l) (hn : ∀ p ∈ l.pats, MtP p d → SpP p < SpP q) : LoneTo ls d (i + 1) f q := fun k l' p hf hk hl' hp hm => by
  by_cases e : k < i
  · exact h k l' p hf e hl' hp hm
  · obtain rfl : k = i := by omega
    rw [hl] at hl'; cases hl'
    exact hn p hp hm
theorem TiedAt.succ {ls : List Layer} {d : List UInt8} {i f t : Nat} {q : Pat} (h : TiedAt ls d i f t q) : TiedAt ls d (i + 1) f t q := ⟨h.1, by have := h.2.1; omega, h.2.2⟩
theorem PlaceTo.start (ls : List Layer) (d : List UInt8) : PlaceTo ls d 0 (-1) ⟨⟨#[]⟩, false⟩ (-1) :=
  ⟨by show (0 : Nat) ≤ 1048576; omega, .inl ⟨rfl, rfl, fun k l p hk => by omega⟩⟩
theorem BestTo.none {ps : List Pat} {d : List UInt8} {q : Pat} (h : BestTo ps d ps.length q false) : ∀ p ∈ ps, ¬ MtP p d := fun p hp => by
  obtain ⟨j, hj, rfl⟩ := List.getElem_of_mem hp
  exact h.2.1 rfl j _ hj (List.getElem?_eq_getElem hj)
theorem BestTo.max {ps : List Pat} {d : List UInt8} {q : Pat} (h : BestTo ps d ps.length q true) : q ∈ ps ∧ MtP q d ∧ ∀ p ∈ ps, MtP p d → SpP p ≤ SpP q :=
  ⟨(h.2.2 rfl).1, (h.2.2 rfl).2.1, fun p hp hm => by
    obtain ⟨j, hj, rfl⟩ := List.getElem_of_mem hp
    exact (h.2.2 rfl).2.2 j _ hj (List.getElem?_eq_getElem hj) hm⟩
theorem PlaceTo.skip {ls : List Layer} {d : List UInt8} {i : Nat} {f t : Int} {q p' : Pat} {l : Layer} (h : PlaceTo ls d i f q t) (hl : ls[i]? = some l) (hb : BestTo l.pats d l.pats.length p' false) : PlaceTo ls d (i + 1) f q t := by
  have hn := hb.none
  refine ⟨h.1, ?_⟩
  rcases h.2 with ⟨h1, h2, h3⟩ | ⟨fn, h1, h2, h3⟩
  · exact .inl ⟨h1, h2, h3.succ hl hn⟩
  · refine .inr ⟨fn, h1, h2.succ hl (fun p hp hm => absurd hm (hn p hp)), ?_⟩
    rcases h3 with ⟨h4, h5⟩ | ⟨tn, h4, h5⟩
    · exact .inl ⟨h4, h5.succ hl (fun p hp hm => absurd hm (hn p hp))⟩
    · exact .inr ⟨tn, h4, h5.succ⟩
theorem PlaceTo.take {ls : List Layer} {d : List UInt8} {i : Nat} {f t : Int} {q p' : Pat} {l : Layer} (h : PlaceTo ls d i f q t) (hl : ls[i]? = some l) (hb : BestTo l.pats d l.pats.length p' true) (hc : f < 0 ∨ SpP q < SpP p') : PlaceTo ls d (i + 1) i p' (-1) := by
  obtain ⟨m1, m2, m3⟩ := hb.max
  have hlt : ∀ k l' p, k < i → ls[k]? = some l' → p ∈ l'.pats → MtP p d → SpP p < SpP p' := fun k l' p hk hl' hp hm => by
    rcases h.2 with ⟨h1, h2, h3⟩ | ⟨fn, h1, h2, h3⟩
    · exact absurd hm (h3 k l' p hk hl' hp)
    · have h4 := h2.2.2.2.1 k l' p hk hl' hp hm
      rcases hc with hc | hc
      · omega
      · omega
  refine ⟨hb.1, .inr ⟨i, rfl, ⟨by omega, ⟨l, hl, m1⟩, m2, fun k l' p hk hl' hp hm => ?_, hlt⟩, .inl ⟨rfl, fun k l' p hf hk => by omega⟩⟩⟩
  by_cases e : k < i
  · exact Int.le_of_lt (hlt k l' p e hl' hp hm)
  · obtain rfl : k = i := by omega
    rw [hl] at hl'; cases hl'
    exact m3 p hp hm
theorem PlaceTo.tie {ls : List Layer} {d : List UInt8} {i : Nat} {f t : Int} {q p' : Pat} {l : Layer} (h : PlaceTo ls d i f q t) (hl : ls[i]? = some l) (hb : BestTo l.pats d l.pats.length p' true) (hf : ¬ f < 0) (he : SpP p' = SpP q) (ht : t < 0) : PlaceTo ls d (i + 1) f q i := by
  obtain ⟨m1, m2, m3⟩ := hb.max
  refine ⟨h.1, ?_⟩
  rcases h.2 with ⟨h1, h2, h3⟩ | ⟨fn, h1, h2, h3⟩
  · omega
  · rcases h3 with ⟨h4, h5⟩ | ⟨tn, h4, h5⟩
    · exact .inr ⟨fn, h1, h2.succ hl (fun p hp hm => by have := m3 p hp hm; omega), .inr ⟨i, rfl, h2.1, by omega, ⟨l, p', hl, m1, m2, he⟩, h5⟩⟩
    · omega
theorem PlaceTo.keep {ls : List Layer} {d : List UInt8} {i : Nat} {f t : Int} {q p' : Pat} {l : Layer} (h : PlaceTo ls d i f q t) (hl : ls[i]? = some l) (hb : BestTo l.pats d l.pats.length p' true) (hf : ¬ f < 0) (he : ¬ SpP q < SpP p') (ht : SpP p' = SpP q → ¬ t < 0) : PlaceTo ls d (i + 1) f q t := by
  obtain ⟨m1, m2, m3⟩ := hb.max
  refine ⟨h.1, ?_⟩
  rcases h.2 with ⟨h1, h2, h3⟩ | ⟨fn, h1, h2, h3⟩
  · omega
  · refine .inr ⟨fn, h1, h2.succ hl (fun p hp hm => by have := m3 p hp hm; omega), ?_⟩
    rcases h3 with ⟨h4, h5⟩ | ⟨tn, h4, h5⟩
    · refine .inl ⟨h4, h5.succ hl (fun p hp hm => ?_)⟩
      have := m3 p hp hm
      by_cases e : SpP p' = SpP q
      · have := ht e; omega
      · omega
    · exact .inr ⟨tn, h4, h5.succ⟩
end Go.Proofs.Qxb6616084a
