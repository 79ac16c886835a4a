/-
  The plain law: reversing the layers.
-/
import Derived.Test.Qxb6616084aPlace0
namespace Go.Proofs.Qxb6616084a
set_option linter.unusedVariables false
open Go.RowKit
theorem lead_at {b d : List UInt8} (h : LeadP b d) : ∃ i, i ≤ d.length ∧ b = d.take i ∧ (i = d.length ∨ d[i]? = some 47) := by
  rcases h with rfl | ⟨i, h1, h2, h3⟩
  · exact ⟨b.length, Nat.le_refl _, (List.take_length).symm, .inl rfl⟩
  · exact ⟨i, Nat.le_of_lt h1, h3.symm, .inr h2⟩
theorem count_take_succ {d : List UInt8} {i : Nat} (h : d[i]? = some 47) : Lib.countByte (d.take (i + 1)) 47 = Lib.countByte (d.take i) 47 + 1 := by
  unfold Lib.countByte
  rw [List.take_add_one, h, List.count_append]
  rfl
theorem count_take_mono {d : List UInt8} {i j : Nat} (h : i ≤ j) : Lib.countByte (d.take i) 47 ≤ Lib.countByte (d.take j) 47 := by
  unfold Lib.countByte
  exact (List.take_sublist_take_left h).count_le _
theorem lead_count {a b d : List UInt8} (ha : LeadP a d) (hb : LeadP b d) (hl : a.length < b.length) : Lib.countByte a 47 < Lib.countByte b 47 := by
  obtain ⟨i, hi, rfl, hi2⟩ := lead_at ha
  obtain ⟨j, hj, rfl, hj2⟩ := lead_at hb
  rw [List.length_take, List.length_take] at hl
  rcases hi2 with rfl | hi2
  · omega
  · have h1 := count_take_succ hi2
    have h2 := count_take_mono (d := d) (show i + 1 ≤ j by omega)
    omega
theorem lead_same {a b d : List UInt8} (ha : LeadP a d) (hb : LeadP b d) (hl : a.length = b.length) : a = b := by
  obtain ⟨i, hi, rfl, hi2⟩ := lead_at ha
  obtain ⟨j, hj, rfl, hj2⟩ := lead_at hb
  rw [List.length_take, List.length_take] at hl
  obtain rfl : i = j := by omega
  rfl
theorem sp_tree {b : List UInt8} (h : b ≠ dot) : Sp b true = (Lib.countByte b 47 : Int) + 1 := by simp [Sp, h]
theorem sp_dot : Sp dot true = 0 := by simp [Sp]
theorem sp_exact (b : List UInt8) : Sp b false = 9223372036854775807 := by simp [Sp]
theorem sp_small (b : List UInt8) (hb : b.length ≤ 1048576) : Sp b true ≤ 1048577 := by
  by_cases h : b = dot
  · rw [h, sp_dot]; omega
  · rw [sp_tree h]
    have : Lib.countByte b 47 ≤ b.length := List.count_le_length
    omega
theorem mtp_tree {p : Pat} {d : List UInt8} (h : MtP p d) (ht : p.tree = true) : p.base.data.toList = dot ∨ LeadP p.base.data.toList d := by
  rcases (mt_names _ _ _).1 h with h | ⟨_, h⟩
  · exact .inr (.inl h)
  · exact h
theorem mtp_exact {p : Pat} {d : List UInt8} (h : MtP p d) (ht : p.tree = false) : p.base.data.toList = d := by
  rcases (mt_names _ _ _).1 h with h | ⟨h, _⟩
  · exact h
  · rw [ht] at h; simp at h
/-- Two patterns that name d, equally specific, are one. -/
theorem same_pat {p q : Pat} {d : List UInt8} (op : OkPat p) (oq : OkPat q) (hp : MtP p d) (hq : MtP q d) (hs : SpP p = SpP q) : p.base.data.toList = q.base.data.toList ∧ p.tree = q.tree := by
  obtain ⟨pb, pt⟩ := p
  obtain ⟨qb, qt⟩ := q
  have hpb : pb.data.toList.length ≤ 1048576 := by rw [size_str]; exact op
  have hqb : qb.data.toList.length ≤ 1048576 := by rw [size_str]; exact oq
  show pb.data.toList = qb.data.toList ∧ pt = qt
  have hs' : Sp pb.data.toList pt = Sp qb.data.toList qt := hs
  cases pt <;> cases qt
  · have h1 := mtp_exact hp rfl
    have h2 := mtp_exact hq rfl
    exact ⟨h1.trans h2.symm, rfl⟩
  · have := sp_small _ hqb
    rw [sp_exact] at hs'
    omega
  · have := sp_small _ hpb
    rw [sp_exact] at hs'
    omega
  · refine ⟨?_, rfl⟩
    have h1 : pb.data.toList = dot ∨ LeadP pb.data.toList d := mtp_tree hp rfl
    have h2 : qb.data.toList = dot ∨ LeadP qb.data.toList d := mtp_tree hq rfl
    generalize pb.data.toList = x at *
    generalize qb.data.toList = y at *
    by_cases e1 : x = dot
    · by_cases e2 : y = dot
      · rw [e1, e2]
      · rw [e1, sp_dot, sp_tree e2] at hs'; omega
    · by_cases e2 : y = dot
      · rw [e2, sp_dot, sp_tree e1] at hs'; omega
      · have h1 := h1.resolve_left e1
        have h2 := h2.resolve_left e2
        rw [sp_tree e1, sp_tree e2] at hs'
        rcases Nat.lt_trichotomy x.length y.length with h | h | h
        · have := lead_count h1 h2 h; omega
        · exact lead_same h1 h2 h
        · have := lead_count h2 h1 h; omega
/-- The one layer with a most specific pattern. -/
def Uq (ls : List Layer) (d : List UInt8) (f : Nat) (q : Pat) : Prop :=
  (∃ l, ls[f]? = some l ∧ q ∈ l.pats) ∧ MtP q d ∧ (∀ k l p, ls[k]? = some l → p ∈ l.pats → MtP p d → SpP p ≤ SpP q ∧ (k ≠ f → SpP p < SpP q))
/-- Two layers have a most specific pattern. -/
def Tw (ls : List Layer) (d : List UInt8) : Prop :=
  ∃ (f t : Nat) (lf lt : Layer) (q p : Pat), f ≠ t ∧ ls[f]? = some lf ∧ ls[t]? = some lt ∧ q ∈ lf.pats ∧ p ∈ lt.pats ∧ MtP q d ∧ MtP p d ∧ SpP p = SpP q ∧ (∀ (k : Nat) (l : Layer) (p : Pat), ls[k]? = some l → p ∈ l.pats → MtP p d → SpP p ≤ SpP q)
def Nn (ls : List Layer) (d : List UInt8) : Prop := ∀ (k : Nat) (l : Layer) (p : Pat), ls[k]? = some l → p ∈ l.pats → ¬ MtP p d
theorem lt_some {α} {ls : List α} {k : Nat} {l : α} (h : ls[k]? = some l) : k < ls.length := (List.getElem?_eq_some_iff.1 h).1
theorem uq_of {ls : List Layer} {d : List UInt8} {f : Nat} {q : Pat} (h : FoundAt ls d ls.length f q) (h' : LoneTo ls d ls.length f q) : Uq ls d f q := by
  obtain ⟨h1, h2, h3, h4, h5⟩ := h
  refine ⟨h2, h3, fun k l p hl hp hm => ⟨h4 k l p (lt_some hl) hl hp hm, fun hk => ?_⟩⟩
  by_cases e : k < f
  · exact h5 k l p e hl hp hm
  · exact h' k l p (by omega) (lt_some hl) hl hp hm
theorem tw_of {ls : List Layer} {d : List UInt8} {f t : Nat} {q : Pat} (h : FoundAt ls d ls.length f q) (h' : TiedAt ls d ls.length f t q) : Tw ls d := by
  obtain ⟨h1, ⟨lf, h2, h2'⟩, h3, h4, h5⟩ := h
  obtain ⟨t1, t2, ⟨lt, p, t3, t4, t5, t6⟩, t7⟩ := h'
  exact ⟨f, t, lf, lt, q, p, by omega, h2, t3, h2', t4, h3, t5, t6, fun k l p hl hp hm => h4 k l p (lt_some hl) hl hp hm⟩
theorem nn_of {ls : List Layer} {d : List UInt8} (h : NoneTo ls d ls.length) : Nn ls d := fun k l p hl => h k l p (lt_some hl) hl
theorem rev_at {α} {ls : List α} {k : Nat} {l : α} (h : ls.reverse[k]? = some l) : k < ls.length ∧ ls[ls.length - 1 - k]? = some l := by
  have hk := lt_some h
  rw [List.length_reverse] at hk
  rw [List.getElem?_reverse hk] at h
  exact ⟨hk, h⟩
theorem rev_at' {α} {ls : List α} {k : Nat} {l : α} (h : ls[k]? = some l) : ls.reverse[ls.length - 1 - k]? = some l := by
  have hk := lt_some h
  rw [List.getElem?_reverse (by omega), show ls.length - 1 - (ls.length - 1 - k) = k by omega]
  exact h
theorem Uq.rev {ls : List Layer} {d : List UInt8} {f : Nat} {q : Pat} (h : Uq ls d f q) : Uq ls.reverse d (ls.length - 1 - f) q := by
  obtain ⟨⟨l, h1, h2⟩, h3, h4⟩ := h
  refine ⟨⟨l, rev_at' h1, h2⟩, h3, fun k l' p hl hp hm => ?_⟩
  obtain ⟨hk, hl'⟩ := rev_at hl
  have hf := lt_some h1
  obtain ⟨a, b⟩ := h4 _ l' p hl' hp hm
  exact ⟨a, fun hne => b (by omega)⟩
theorem Tw.rev {ls : List Layer} {d : List UInt8} (h : Tw ls d) : Tw ls.reverse d := by
  obtain ⟨f, t, lf, lt, q, p, h1, h2, h3, h4, h5, h6, h7, h8, h9⟩ := h
  have := lt_some h2
  have := lt_some h3
  refine ⟨_, _, lf, lt, q, p, ?_, rev_at' h2, rev_at' h3, h4, h5, h6, h7, h8, fun k l p' hl hp hm => h9 _ l p' (rev_at hl).2 hp hm⟩
  omega
theorem Nn.rev {ls : List Layer} {d : List UInt8} (h : Nn ls d) : Nn ls.reverse d := fun k l p hl hp hm => h _ l p (rev_at hl).2 hp hm
theorem uq_not_tw {ls : List Layer} {d : List UInt8} {g : Nat} {r : Pat} (h : Uq ls d g r) (h' : Tw ls d) : False := by
  obtain ⟨⟨l, u1, u2⟩, u3, u4⟩ := h
  obtain ⟨f, t, lf, lt, q, p, h1, h2, h3, h4, h5, h6, h7, h8, h9⟩ := h'
  have a := h9 g l r u1 u2 u3
  have b := u4 f lf q h2 h4 h6
  have c := u4 t lt p h3 h5 h7
  by_cases e : f = g
  · have := c.2 (by omega); omega
  · have := b.2 e; omega
theorem uq_not_nn {ls : List Layer} {d : List UInt8} {g : Nat} {r : Pat} (h : Uq ls d g r) (h' : Nn ls d) : False := by
  obtain ⟨⟨l, u1, u2⟩, u3, u4⟩ := h
  exact h' _ _ _ u1 u2 u3
theorem tw_not_nn {ls : List Layer} {d : List UInt8} (h : Tw ls d) (h' : Nn ls d) : False := by
  obtain ⟨f, t, lf, lt, q, p, h1, h2, h3, h4, h5, h6, h7, h8, h9⟩ := h
  exact h' _ _ _ h2 h4 h6
theorem uq_same {ls : List Layer} {d : List UInt8} {f g : Nat} {q r : Pat} (h : Uq ls d f q) (h' : Uq ls d g r) : f = g ∧ SpP q = SpP r := by
  obtain ⟨⟨l, u1, u2⟩, u3, u4⟩ := h
  obtain ⟨⟨m, v1, v2⟩, v3, v4⟩ := h'
  have a := u4 g m r v1 v2 v3
  have b := v4 f l q u1 u2 u3
  refine ⟨?_, by omega⟩
  by_cases e : f = g
  · exact e
  · have := b.2 e
    omega
theorem uq_un {ls : List Layer} {d : List UInt8} {f g : Nat} {q r : Pat} (ho : ∀ l ∈ ls, OkLayer l) (h : Uq ls d f q) (h' : Uq ls.reverse d g r) : g = ls.length - 1 - f ∧ f < ls.length ∧ Un r.base.data.toList d = Un q.base.data.toList d := by
  have hr := h.rev
  obtain ⟨e1, e2⟩ := uq_same hr h'
  obtain ⟨⟨l, u1, u2⟩, u3, u4⟩ := h
  obtain ⟨⟨m, v1, v2⟩, v3, v4⟩ := h'
  refine ⟨e1.symm, lt_some u1, ?_⟩
  have oq : OkPat q := (ho l (List.mem_of_getElem? u1)).2.2 q u2
  have or' : OkPat r := (ho m (List.mem_of_getElem? (rev_at v1).2)).2.2 r v2
  rw [(same_pat oq or' u3 v3 e2).1]
theorem un_lead (b d : List UInt8) : LeadP (Un b d) d := by
  unfold Un
  split
  · exact .inl rfl
  · dsimp only
    generalize (if b = dot then 0 else b.length + 1) = k
    split
    · exact .inl rfl
    · rename_i h1 h
      right
      have hge := Lib.indexByte_ge (d.drop k) 47
      have h2 := (Lib.indexByte_some (l := d.drop k) (c := 47) (o := (Lib.indexByte (d.drop k) 47).toNat) (by omega)).1
      have h3 := (List.getElem?_eq_some_iff.1 h2).1
      rw [List.length_drop] at h3
      rw [List.getElem?_drop] at h2
      exact ⟨_, by omega, h2, rfl⟩
theorem names_of {l : Layer} {p : Pat} {d : List UInt8} (hp : p ∈ l.pats) (hm : MtP p d) : NamesP l.pats d := by
  obtain ⟨j, hj, rfl⟩ := List.getElem_of_mem hp
  exact ⟨j, hj, hm⟩
theorem of_names {l : Layer} {d : List UInt8} (h : NamesP l.pats d) : ∃ p ∈ l.pats, MtP p d := by
  obtain ⟨j, hj, h⟩ := h
  exact ⟨_, List.getElem_mem hj, h⟩
end Go.Proofs.Qxb6616084a
