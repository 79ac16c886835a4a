/-
  The plain law: the walk from the directory up to the root.
-/
import Derived.Test.Qxb6616084aPlain
import Derived.Test.Qxb6616084aSpell
namespace Go.Proofs.Qxb6616084a
set_option linter.unusedVariables false
open Go.RowKit
/-- The pattern (b, t) stands in ps. -/
def Has (ps : List Pat) (b : List UInt8) (t : Bool) : Prop := ∃ p ∈ ps, p.base.data.toList = b ∧ p.tree = t
/-- Layer k holds the pattern (b, t). -/
def Holds (ls : List Layer) (b : List UInt8) (t : Bool) (k : Nat) : Prop := ∃ l, ls[k]? = some l ∧ Has l.pats b t
/-- The first two layers below i that hold (b, t). -/
def First2 (ls : List Layer) (b : List UInt8) (t : Bool) (i : Nat) (f s : Int) : Prop :=
  (f = -1 ∧ s = -1 ∧ ∀ k, k < i → ¬ Holds ls b t k) ∨
  ∃ fn : Nat, f = fn ∧ fn < i ∧ Holds ls b t fn ∧ (∀ k, k < fn → ¬ Holds ls b t k) ∧
    ((s = -1 ∧ ∀ k, fn < k → k < i → ¬ Holds ls b t k) ∨ ∃ sn : Nat, s = sn ∧ fn < sn ∧ sn < i ∧ Holds ls b t sn ∧ ∀ k, fn < k → k < sn → ¬ Holds ls b t k)
theorem First2.start (ls : List Layer) (b : List UInt8) (t : Bool) : First2 ls b t 0 (-1) (-1) := .inl ⟨rfl, rfl, fun k hk => by omega⟩
theorem First2.skip {ls : List Layer} {b : List UInt8} {t : Bool} {i : Nat} {f s : Int} (h : First2 ls b t i f s) (hn : ¬ Holds ls b t i) : First2 ls b t (i + 1) f s := by
  have st : ∀ k, k < i + 1 → k < i ∨ k = i := fun k hk => by omega
  rcases h with ⟨h1, h2, h3⟩ | ⟨fn, h1, h2, h3, h4, h5⟩
  · exact .inl ⟨h1, h2, fun k hk => by rcases st k hk with h | rfl; exact h3 k h; exact hn⟩
  · refine .inr ⟨fn, h1, by omega, h3, h4, ?_⟩
    rcases h5 with ⟨h6, h7⟩ | ⟨sn, h6, h7, h8, h9⟩
    · exact .inl ⟨h6, fun k hf hk => by rcases st k hk with h | rfl; exact h7 k hf h; exact hn⟩
    · exact .inr ⟨sn, h6, h7, by omega, h9⟩
theorem First2.first {ls : List Layer} {b : List UInt8} {t : Bool} {i : Nat} {f s : Int} (h : First2 ls b t i f s) (hn : Holds ls b t i) (hf : f < 0) : First2 ls b t (i + 1) i s := by
  rcases h with ⟨h1, h2, h3⟩ | ⟨fn, h1, h2, h3, h4, h5⟩
  · exact .inr ⟨i, rfl, by omega, hn, h3, .inl ⟨h2, fun k hf hk => by omega⟩⟩
  · omega
theorem First2.second {ls : List Layer} {b : List UInt8} {t : Bool} {i : Nat} {f s : Int} (h : First2 ls b t i f s) (hn : Holds ls b t i) (hf : ¬ f < 0) (hs : s < 0) : First2 ls b t (i + 1) f i := by
  rcases h with ⟨h1, h2, h3⟩ | ⟨fn, h1, h2, h3, h4, h5⟩
  · omega
  · refine .inr ⟨fn, h1, by omega, h3, h4, .inr ⟨i, rfl, h2, by omega, hn, ?_⟩⟩
    rcases h5 with ⟨h6, h7⟩ | ⟨sn, h6, h7, h8, h9⟩
    · exact h7
    · omega
theorem First2.keep {ls : List Layer} {b : List UInt8} {t : Bool} {i : Nat} {f s : Int} (h : First2 ls b t i f s) (hf : ¬ f < 0) (hs : ¬ s < 0) : First2 ls b t (i + 1) f s := by
  rcases h with ⟨h1, h2, h3⟩ | ⟨fn, h1, h2, h3, h4, h5⟩
  · omega
  · refine .inr ⟨fn, h1, by omega, h3, h4, ?_⟩
    rcases h5 with ⟨h6, h7⟩ | ⟨sn, h6, h7, h8, h9⟩
    · omega
    · exact .inr ⟨sn, h6, h7, by omega, h9⟩
/-- No layer holds (b, t). -/
def Free (ls : List Layer) (b : List UInt8) (t : Bool) : Prop := ∀ k, ¬ Holds ls b t k
theorem First2.free {ls : List Layer} {b : List UInt8} {t : Bool} {f s : Int} (h : First2 ls b t ls.length f s) (hf : f < 0) : Free ls b t := by
  rcases h with ⟨h1, h2, h3⟩ | ⟨fn, h1, h2, h3, h4, h5⟩
  · intro k hk
    exact h3 k (by obtain ⟨l, hl, _⟩ := hk; exact lt_some hl) hk
  · omega
theorem holds_of {ls : List Layer} {k : Nat} {l : Layer} {p : Pat} (hl : ls[k]? = some l) (hp : p ∈ l.pats) : Holds ls p.base.data.toList p.tree k := ⟨l, hl, p, hp, rfl, rfl⟩
/-- d's cut at its first slash at k or behind. -/
def Pv (d : List UInt8) (k : Nat) : List UInt8 := if Lib.indexByte (d.drop k) 47 = -1 then d else d.take (k + (Lib.indexByte (d.drop k) 47).toNat)
theorem un_self (d : List UInt8) : Un d d = d := by simp [Un]
theorem un_dot {d : List UInt8} (h : d ≠ dot) : Un dot d = Pv d 0 := by simp [Un, Pv, h]
theorem un_take {d : List UInt8} {i : Nat} (hi : i < d.length) (hd : d.take i ≠ dot) : Un (d.take i) d = Pv d (i + 1) := by
  have hl : (d.take i).length = i := by rw [List.length_take]; omega
  have hne : ¬ d = d.take i := fun e => by rw [← e] at hl; omega
  unfold Un Pv
  rw [if_neg hne, if_neg hd, hl]
theorem pv_end (d : List UInt8) : Pv d d.length = d := by
  unfold Pv
  rw [List.drop_length]
  simp [Lib.indexByte]
theorem pv_slash {d : List UInt8} {i : Nat} (h : d[i]? = some 47) : Pv d i = d.take i := by
  have hi := lt_some h
  unfold Pv
  rw [List.drop_eq_getElem_cons hi]
  have : d[i] = 47 := by rw [List.getElem?_eq_getElem hi] at h; simpa using h
  rw [this]
  simp [Lib.indexByte]
theorem pv_other {d : List UInt8} {i : Nat} (hi : i < d.length) (h : d[i]? ≠ some 47) : Pv d i = Pv d (i + 1) := by
  unfold Pv
  rw [List.drop_eq_getElem_cons hi]
  have h47 : d[i] ≠ 47 := fun e => h (by rw [List.getElem?_eq_getElem hi, e])
  have hge := Lib.indexByte_ge (d.drop (i + 1)) 47
  have e : Lib.indexByte (d[i] :: d.drop (i + 1)) 47 = if Lib.indexByte (d.drop (i + 1)) 47 = -1 then -1 else Lib.indexByte (d.drop (i + 1)) 47 + 1 := by
    simp [Lib.indexByte, h47]
  rw [e]
  generalize Lib.indexByte (d.drop (i + 1)) 47 = x at hge
  by_cases hx : x = -1
  · simp [hx]
  · rw [if_neg hx, if_neg (by omega), if_neg hx]
    congr 1
    omega
/-- No layer holds d itself, nor a cut of d at a slash at k or behind. -/
def Clear (ls : List Layer) (d : List UInt8) (k : Nat) : Prop := Free ls d false ∧ Free ls d true ∧ ∀ j, k ≤ j → d[j]? = some 47 → Free ls (d.take j) true
/-- (b, t) names d, and no pattern that names d is more specific. -/
def Top (ls : List Layer) (d b : List UInt8) (t : Bool) : Prop := Mt b d t = true ∧ ∀ (k : Nat) (l : Layer) (p : Pat), ls[k]? = some l → p ∈ l.pats → MtP p d → SpP p ≤ Sp b t
theorem sp_ge (b : List UInt8) : 0 ≤ Sp b true := by
  by_cases h : b = dot
  · rw [h, sp_dot]; omega
  · rw [sp_tree h]; omega
theorem lead_le {a b d : List UInt8} (ha : LeadP a d) (hb : LeadP b d) (hn : b ≠ dot) (hl : a.length ≤ b.length) : Sp a true ≤ Sp b true := by
  by_cases h : a = dot
  · rw [h, sp_dot]; exact sp_ge b
  · rw [sp_tree h, sp_tree hn]
    rcases Nat.lt_or_eq_of_le hl with h' | h'
    · have := lead_count ha hb h'; omega
    · rw [lead_same ha hb h']; omega
theorem okp {ls : List Layer} (ho : ∀ l ∈ ls, OkLayer l) {k : Nat} {l : Layer} {p : Pat} (hl : ls[k]? = some l) (hp : p ∈ l.pats) : OkPat p := (ho l (List.mem_of_getElem? hl)).2.2 p hp
theorem top_exact {ls : List Layer} (ho : ∀ l ∈ ls, OkLayer l) (d : List UInt8) : Top ls d d false := by
  refine ⟨by simp [Mt], fun k l p hl hp hm => ?_⟩
  have h : p.base.data.toList.length ≤ 1048576 := by rw [size_str]; exact okp ho hl hp
  show Sp p.base.data.toList p.tree ≤ _
  rw [sp_exact]
  cases p.tree with
  | false => rw [sp_exact]; omega
  | true => have := sp_small _ h; omega
theorem tree_of {ls : List Layer} {d : List UInt8} (hf : Free ls d false) {k : Nat} {l : Layer} {p : Pat} (hl : ls[k]? = some l) (hp : p ∈ l.pats) (hm : MtP p d) : p.tree = true := by
  cases ht : p.tree with
  | true => rfl
  | false =>
    have h := mtp_exact hm ht
    have h' := holds_of hl hp
    rw [ht, h] at h'
    exact absurd h' (hf k)
theorem top_tree {ls : List Layer} {d : List UInt8} (hf : Free ls d false) : Top ls d d true := by
  refine ⟨by simp [Mt], fun k l p hl hp hm => ?_⟩
  have ht := tree_of hf hl hp hm
  show Sp p.base.data.toList p.tree ≤ _
  rw [ht]
  rcases mtp_tree hm ht with h | h
  · rw [h, sp_dot]; exact sp_ge _
  · by_cases e : d = dot
    · rcases h with h | ⟨i, h1, h2, h3⟩
      · rw [h]; exact Int.le_refl _
      · rw [e] at h1 h2
        have : i = 0 := by simp [dot] at h1; exact h1
        rw [this] at h2
        simp [dot] at h2
    · refine lead_le h (.inl rfl) e ?_
      rcases h with h | ⟨i, h1, h2, h3⟩
      · rw [h]; exact Nat.le_refl _
      · rw [← h3, List.length_take]; omega
theorem not_dot {d : List UInt8} (hn : NoDS d) {i : Nat} (hi : d[i]? = some 47) : d.take i ≠ dot := by
  intro h
  have hl := lt_some hi
  have h2 : (d.take i).length = 1 := by rw [h]; rfl
  rw [List.length_take] at h2
  obtain rfl : i = 1 := by omega
  refine hn ⟨?_, hi⟩
  have : (d.take 1)[0]? = some 46 := by rw [h]; rfl
  rw [List.getElem?_take] at this
  simpa using this
theorem top_take {ls : List Layer} {d : List UInt8} (hn : NoDS d) {i : Nat} (hi : d[i]? = some 47) (hc : Clear ls d (i + 1)) : Top ls d (d.take i) true := by
  have hl := lt_some hi
  have hL : LeadP (d.take i) d := .inr ⟨i, hl, hi, rfl⟩
  refine ⟨(mt_names _ _ _).2 (.inr ⟨rfl, .inr hL⟩), fun k l p hl' hp hm => ?_⟩
  have ht := tree_of hc.1 hl' hp hm
  have hh := holds_of hl' hp
  show Sp p.base.data.toList p.tree ≤ _
  rw [ht] at hh ⊢
  rcases mtp_tree hm ht with h | h
  · rw [h, sp_dot]; exact sp_ge _
  · refine lead_le h hL (not_dot hn hi) ?_
    rcases h with h | ⟨j, h1, h2, h3⟩
    · rw [h] at hh; exact absurd hh (hc.2.1 k)
    · by_cases e : i + 1 ≤ j
      · rw [← h3] at hh; exact absurd hh (hc.2.2 j e h2 k)
      · rw [← h3, List.length_take, List.length_take]; omega
theorem only_dot {ls : List Layer} {d : List UInt8} (hc : Clear ls d 0) {k : Nat} {l : Layer} {p : Pat} (hl : ls[k]? = some l) (hp : p ∈ l.pats) (hm : MtP p d) : p.base.data.toList = dot ∧ p.tree = true := by
  have ht := tree_of hc.1 hl hp hm
  have hh := holds_of hl hp
  rw [ht] at hh
  refine ⟨?_, ht⟩
  rcases mtp_tree hm ht with h | h
  · exact h
  · rcases h with h | ⟨j, h1, h2, h3⟩
    · rw [h] at hh; exact absurd hh (hc.2.1 k)
    · rw [← h3] at hh; exact absurd hh (hc.2.2 j (Nat.zero_le _) h2 k)
theorem top_root {ls : List Layer} {d : List UInt8} (hc : Clear ls d 0) : Top ls d dot true := by
  refine ⟨(mt_names _ _ _).2 (.inr ⟨rfl, .inl rfl⟩), fun k l p hl hp hm => ?_⟩
  obtain ⟨h1, h2⟩ := only_dot hc hl hp hm
  show Sp p.base.data.toList p.tree ≤ _
  rw [h1, h2]
  exact Int.le_refl _
theorem none_root {ls : List Layer} {d : List UInt8} (hc : Clear ls d 0) (hf : Free ls dot true) : Nn ls d := fun k l p hl hp hm => by
  obtain ⟨h1, h2⟩ := only_dot hc hl hp hm
  have hh := holds_of hl hp
  rw [h1, h2] at hh
  exact hf k hh
theorem none_dot {ls : List Layer} (h1 : Free ls dot false) (h2 : Free ls dot true) : Nn ls dot := by
  refine none_root ⟨h1, h2, fun j _ hj => ?_⟩ h2
  have := lt_some hj
  have h0 : j = 0 := by simp [dot] at this; exact this
  rw [h0] at hj
  simp [dot] at hj
/-- The walk's answer is the place's. -/
theorem walk_same {ls : List Layer} {d : List UInt8} (ho : ∀ l ∈ ls, OkLayer l) {fn : Nat} {q : Pat} {b : List UInt8} {t : Bool} {f s : Int} (hq : FoundAt ls d ls.length fn q) (ht : Top ls d b t) (h2 : First2 ls b t ls.length f s) (hf : ¬ f < 0) :
    f = fn ∧ q.base.data.toList = b ∧ q.tree = t ∧ (LoneTo ls d ls.length fn q → s = -1) ∧ ∀ tn, TiedAt ls d ls.length fn tn q → s = tn := by
  obtain ⟨q1, ⟨lq, q2, q2'⟩, q3, q4, q5⟩ := hq
  rcases h2 with ⟨h1, _⟩ | ⟨gn, rfl, g2, ⟨lg, g3, p, g4, g5, g6⟩, g7, g8⟩
  · omega
  · have hmp : ∀ p' : Pat, p'.base.data.toList = b → p'.tree = t → MtP p' d := fun p' e1 e2 => by unfold MtP; rw [e1, e2]; exact ht.1
    have hsp : ∀ p' : Pat, p'.base.data.toList = b → p'.tree = t → SpP p' = Sp b t := fun p' e1 e2 => by unfold SpP; rw [e1, e2]
    have a1 := ht.2 fn lq q q2 q2' q3
    have a2 := q4 gn lg p (lt_some g3) g3 g4 (hmp p g5 g6)
    rw [hsp p g5 g6] at a2
    have a3 : SpP p = SpP q := by rw [hsp p g5 g6]; omega
    obtain ⟨s1, s2⟩ := same_pat (okp ho g3 g4) (okp ho q2 q2') (hmp p g5 g6) q3 a3
    have hqb : q.base.data.toList = b := by rw [← s1, g5]
    have hqt : q.tree = t := by rw [← s2, g6]
    have hH : Holds ls b t fn := by have := holds_of q2 q2'; rw [hqb, hqt] at this; exact this
    have e1 : gn = fn := by
      rcases Nat.lt_trichotomy gn fn with h | h | h
      · have := q5 gn lg p h g3 g4 (hmp p g5 g6); omega
      · exact h
      · exact absurd hH (g7 fn h)
    subst e1
    refine ⟨rfl, hqb, hqt, fun hlone => ?_, fun tn htn => ?_⟩
    · rcases g8 with ⟨h, _⟩ | ⟨sn, rfl, h3, h4, ⟨l, h5, p', h6, h7, h8⟩, _⟩
      · exact h
      · have := hlone sn l p' h3 h4 h5 h6 (hmp p' h7 h8)
        rw [hsp p' h7 h8] at this
        omega
    · obtain ⟨t1, t2, ⟨lt, pt, t3, t4, t5, t6⟩, t7⟩ := htn
      obtain ⟨s3, s4⟩ := same_pat (okp ho t3 t4) (okp ho q2 q2') t5 q3 t6
      have hT : Holds ls b t tn := by have := holds_of t3 t4; rw [s3, s4, hqb, hqt] at this; exact this
      rcases g8 with ⟨h, h'⟩ | ⟨sn, rfl, h3, h4, ⟨l, h5, p', h6, h7, h8⟩, h9⟩
      · exact absurd hT (h' tn t1 t2)
      · rcases Nat.lt_trichotomy sn tn with h | h | h
        · have := t7 sn l p' h3 h h5 h6 (hmp p' h7 h8)
          rw [hsp p' h7 h8] at this
          omega
        · rw [h]
        · exact absurd hT (h9 tn t1 h)
theorem walk_none {ls : List Layer} {d : List UInt8} {b : List UInt8} {t : Bool} {f s : Int} (hn : Nn ls d) (ht : Top ls d b t) (h2 : First2 ls b t ls.length f s) (hf : ¬ f < 0) : False := by
  rcases h2 with ⟨h1, _⟩ | ⟨gn, rfl, g2, ⟨lg, g3, p, g4, g5, g6⟩, g7, g8⟩
  · omega
  · exact hn gn lg p g3 g4 (by unfold MtP; rw [g5, g6]; exact ht.1)
theorem found_not_nn {ls : List Layer} {d : List UInt8} {fn : Nat} {q : Pat} (hq : FoundAt ls d ls.length fn q) (hn : Nn ls d) : False := by
  obtain ⟨q1, ⟨lq, q2, q2'⟩, q3, q4, q5⟩ := hq
  exact hn fn lq q q2 q2' q3
end Go.Proofs.Qxb6616084a
