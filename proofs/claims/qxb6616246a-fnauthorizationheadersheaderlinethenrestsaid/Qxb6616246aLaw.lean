/-
  The two laws, on lists.
-/
import Derived.Test.Qxb6616246aShift
namespace Go.Proofs.Qxb6616246a
open Go.Lib
def lowC (c : UInt8) : UInt8 := if 65 ≤ c ∧ c ≤ 90 then c + 32 else c
def swapC (c : UInt8) : UInt8 := if 65 ≤ c ∧ c ≤ 90 then c + 32 else if 97 ≤ c ∧ c ≤ 122 then c - 32 else c
theorem all_u8 (f : UInt8 → Bool) (h : (List.range 256).all (fun n => f (UInt8.ofNat n)) = true) (c : UInt8) : f c = true := by
  have h1 := List.all_eq_true.1 h c.toNat (List.mem_range.2 (UInt8.toNat_lt c))
  rwa [UInt8.ofNat_toNat] at h1
theorem match_head (n w : List UInt8) (hn : n.length = 13) (hb : ob blank w[0]? = false) :
    matchAt (n ++ 58 :: 32 :: w) 0 = (valueAt w 0).map fun x => (15 + x.1, 15 + x.2) := by
  have hK : hvK (n ++ 58 :: 32 :: w) 13 = 13 := by
    have := hvK_pre n (58 :: 32 :: w) 0
    rw [hn] at this
    rw [this]
    rfl
  have hv : hvfAt (n ++ 58 :: 32 :: w) 0 13 = some 14 := by
    unfold hvfAt
    have h1 := sw_pre n (58 :: 32 :: w) 0 [58]
    have h2 := sw_pre n (58 :: 32 :: w) 0 [58, 58]
    rw [hn] at h1 h2
    rw [hK, h1, h2]
    rfl
  have hr : runTo blank (n ++ 58 :: 32 :: w) 14 = 15 := by
    have := run_pre n (58 :: 32 :: w) blank 1
    rw [hn] at this
    rw [this]
    unfold runTo
    have e : ((58 :: 32 :: w : List UInt8).drop 1).takeWhile blank = [32] := by
      show (32 :: w).takeWhile blank = [32]
      rw [List.takeWhile_cons, if_pos (by rfl)]
      cases w with
      | nil => rfl
      | cons c l =>
        have : blank c = false := hb
        rw [List.takeWhile_cons, this]
        rfl
    rw [e]
    rfl
  have hval := value_pre (n ++ [58, 32]) w 0
  have hl2 : (n ++ ([58, 32] : List UInt8)).length = 15 := by rw [List.length_append, hn]; rfl
  rw [hl2, List.append_assoc] at hval
  unfold matchAt
  rw [hv]
  simp only
  rw [hr]
  exact hval
theorem takeWhile_stop (f : UInt8 → Bool) (v : List UInt8) (c : UInt8) (l : List UInt8) (hv : ∀ x ∈ v, f x = true) (hc : f c = false) : (v ++ c :: l).takeWhile f = v := by
  induction v with
  | nil => simp [hc]
  | cons a v ih => rw [List.cons_append, List.takeWhile_cons, if_pos (hv a (by simp)), ih fun x hx => hv x (by simp [hx])]
theorem value_bare (v rest : List UInt8) (hv : v ≠ []) (hq : ob quoteB v[0]? = false) (hl : ∀ c ∈ v, lend c = false) : valueAt (v ++ 10 :: rest) 0 = some (0, v.length) := by
  have e0 : (v ++ 10 :: rest)[0]? = v[0]? := by
    cases v with
    | nil => exact absurd rfl hv
    | cons a v => rfl
  have er : runTo notLend (v ++ 10 :: rest) 0 = v.length := by
    unfold runTo
    rw [List.drop_zero, takeWhile_stop notLend v 10 rest (fun x hx => by unfold notLend; rw [hl x hx]; rfl) (by rfl)]
    omega
  unfold valueAt
  rw [e0, hq, er, if_neg (by decide), if_neg]
  rw [beq_iff_eq]
  intro h
  exact hv (List.eq_nil_of_length_eq_zero h)
theorem cqL_stop (v : List UInt8) (l : List UInt8) (hv : ∀ c ∈ v, (c == 34) = false ∧ (c == 92) = false ∧ lend c = false) : cqL 34 (v ++ 34 :: l) = v.length := by
  induction v with
  | nil =>
    cases l with
    | nil => rfl
    | cons d l => rfl
  | cons a v ih =>
    obtain ⟨h1, h2, h3⟩ := hv a (by simp)
    have ih' := ih fun c hc => hv c (by simp [hc])
    obtain ⟨d, l', hd⟩ : ∃ d l', v ++ 34 :: l = d :: l' := by
      cases v with
      | nil => exact ⟨_, _, rfl⟩
      | cons b v => exact ⟨_, _, rfl⟩
    rw [List.cons_append, hd, cqL, h1, h3, h2]
    rw [hd] at ih'
    simp only [Bool.or_self, Bool.false_and, List.length_cons, ih']
    rw [if_neg (by decide), if_neg (by decide)]
    omega
theorem value_quoted (v rest : List UInt8) (hv : v ≠ []) (hl : ∀ c ∈ v, (c == 34) = false ∧ (c == 92) = false ∧ lend c = false) : valueAt (34 :: (v ++ 34 :: 10 :: rest)) 0 = some (1, 1 + v.length) := by
  have ec : cqTo 34 (34 :: (v ++ 34 :: 10 :: rest)) (0 + 1) = 1 + v.length := by
    unfold cqTo
    rw [List.drop_succ_cons, List.drop_zero, cqL_stop v _ hl]
  have ej : joinsAt (34 :: (v ++ 34 :: 10 :: rest)) (1 + v.length + 1) = false := by
    have := joins_pre (34 :: (v ++ [34])) (10 :: rest) 0
    rw [show (34 :: (v ++ [34])).length + 0 = 1 + v.length + 1 from by simp; omega] at this
    rw [List.cons_append, List.append_assoc] at this
    exact this.trans (by rfl)
  have eq : qveAt (34 :: (v ++ 34 :: 10 :: rest)) 0 34 = 1 + v.length := by
    unfold qveAt
    rw [ec, ej]
    rfl
  have h0 : 0 < v.length := List.length_pos_iff.2 hv
  have e1 : (34 :: (v ++ 34 :: 10 :: rest))[0]? = some 34 := rfl
  have e2 : (34 :: (v ++ 34 :: 10 :: rest)).getD 0 0 = 34 := rfl
  unfold valueAt
  rw [e1, e2, eq, if_pos (by rfl), if_neg (by rw [beq_iff_eq]; omega)]
theorem index_head (l : List UInt8) : index (nameL ++ l) nameL = ((0 : Nat) : Int) :=
  index_first (i := 0) (Nat.zero_le _) (by unfold occAt; rw [List.drop_zero, List.isPrefixOf_iff_prefix]; exact List.prefix_append _ _) (fun j h => absurd h (Nat.not_lt_zero _))
def lowL (l : List UInt8) : List UInt8 := l.map lowC
theorem lowL_length (l : List UInt8) : (lowL l).length = l.length := by simp [lowL]
theorem lowL_append (a b : List UInt8) : lowL (a ++ b) = lowL a ++ lowL b := by simp [lowL]
/-- THE FIRST LAW, on lists. -/
theorem law_bare (n v t : List UInt8) (hn : n.length = 13) (hln : lowL n = nameL) (hv : v ≠ []) (hb : ob blank v[0]? = false) (hq : ob quoteB v[0]? = false) (hl : ∀ c ∈ v, lend c = false) :
    scan (n ++ 58 :: 32 :: (v ++ 10 :: t)) (lowL (n ++ 58 :: 32 :: (v ++ 10 :: t))) 0 = ((15 : Int), (15 : Int) + v.length) :: (scan t (lowL t) 0).map (moved (16 + v.length)) := by
  have hm := match_head n (v ++ 10 :: t) hn (by
    cases v with
    | nil => exact absurd rfl hv
    | cons a v => exact hb)
  rw [value_bare v t hv hq hl] at hm
  have hlen : (lowL (n ++ 58 :: 32 :: (v ++ 10 :: t))).length = (n ++ 58 :: 32 :: (v ++ 10 :: t)).length := lowL_length _
  have hix : index ((lowL (n ++ 58 :: 32 :: (v ++ 10 :: t))).drop 0) nameL = ((0 : Nat) : Int) := by
    rw [List.drop_zero, lowL_append, hln]; exact index_head _
  have hL : (n ++ 58 :: 32 :: (v ++ 10 :: t)).length = 16 + v.length + t.length := by simp [hn]; omega
  rw [scan_step hlen hix (by omega), Nat.add_zero, hm]
  have hp : (n ++ 58 :: 32 :: (v ++ [10])).length = 16 + v.length := by simp [hn]; omega
  have key := scan_pre (n ++ 58 :: 32 :: (v ++ [10])) t (n ++ 58 :: 32 :: v) 10 (lowL (n ++ 58 :: 32 :: (v ++ [10]))) (lowL t) (by simp) (by rfl) (by rfl) (lowL_length _) (lowL_length _) 0
  rw [hp, ← lowL_append] at key
  simp only [List.append_assoc, List.cons_append, List.nil_append] at key
  have hsk : scan (n ++ 58 :: 32 :: (v ++ 10 :: t)) (lowL (n ++ 58 :: 32 :: (v ++ 10 :: t))) (15 + v.length) = scan (n ++ 58 :: 32 :: (v ++ 10 :: t)) (lowL (n ++ 58 :: 32 :: (v ++ 10 :: t))) (15 + v.length + 1) := by
    refine scan_skip hlen (by omega) ?_
    have e : (lowL (n ++ 58 :: 32 :: (v ++ 10 :: t)))[15 + v.length]? = some 10 := by
      have := get_pre (lowL (n ++ 58 :: 32 :: v)) (lowL (10 :: t)) 0
      rw [← lowL_append, lowL_length, show (n ++ 58 :: 32 :: v).length + 0 = 15 + v.length from by simp [hn]; omega] at this
      simp only [List.append_assoc, List.cons_append] at this
      exact this
    obtain ⟨_, e2⟩ := List.getElem?_eq_some_iff.1 e
    rw [e2]
    rfl
  simp only [Option.map_some, found, nextOf, List.cons_append, List.nil_append]
  rw [hsk, show 15 + v.length + 1 = 16 + v.length + 0 from by omega, key]
  congr 1
/-- THE SECOND LAW's FIRST HALF, on lists. -/
theorem law_quoted (n v t : List UInt8) (hn : n.length = 13) (hln : lowL n = nameL) (hv : v ≠ []) (hl : ∀ c ∈ v, (c == 34) = false ∧ (c == 92) = false ∧ lend c = false) :
    scan (n ++ 58 :: 32 :: 34 :: (v ++ 34 :: 10 :: t)) (lowL (n ++ 58 :: 32 :: 34 :: (v ++ 34 :: 10 :: t))) 0 = ((16 : Int), (16 : Int) + v.length) :: (scan t (lowL t) 0).map (moved (18 + v.length)) := by
  have hm := match_head n (34 :: (v ++ 34 :: 10 :: t)) hn (by rfl)
  rw [value_quoted v t hv hl] at hm
  have hlen : (lowL (n ++ 58 :: 32 :: 34 :: (v ++ 34 :: 10 :: t))).length = (n ++ 58 :: 32 :: 34 :: (v ++ 34 :: 10 :: t)).length := lowL_length _
  have hix : index ((lowL (n ++ 58 :: 32 :: 34 :: (v ++ 34 :: 10 :: t))).drop 0) nameL = ((0 : Nat) : Int) := by
    rw [List.drop_zero, lowL_append, hln]; exact index_head _
  have hL : (n ++ 58 :: 32 :: 34 :: (v ++ 34 :: 10 :: t)).length = 18 + v.length + t.length := by simp [hn]; omega
  rw [scan_step hlen hix (by omega), Nat.add_zero, hm]
  have hp : (n ++ 58 :: 32 :: 34 :: (v ++ [34, 10])).length = 18 + v.length := by simp [hn]; omega
  have key := scan_pre (n ++ 58 :: 32 :: 34 :: (v ++ [34, 10])) t (n ++ 58 :: 32 :: 34 :: (v ++ [34])) 10 (lowL (n ++ 58 :: 32 :: 34 :: (v ++ [34, 10]))) (lowL t) (by simp) (by rfl) (by rfl) (lowL_length _) (lowL_length _) 0
  rw [hp, ← lowL_append] at key
  simp only [List.append_assoc, List.cons_append, List.nil_append] at key
  have hsk1 : scan (n ++ 58 :: 32 :: 34 :: (v ++ 34 :: 10 :: t)) (lowL (n ++ 58 :: 32 :: 34 :: (v ++ 34 :: 10 :: t))) (16 + v.length) = scan (n ++ 58 :: 32 :: 34 :: (v ++ 34 :: 10 :: t)) (lowL (n ++ 58 :: 32 :: 34 :: (v ++ 34 :: 10 :: t))) (16 + v.length + 1) := by
    refine scan_skip hlen (by omega) ?_
    have e : (lowL (n ++ 58 :: 32 :: 34 :: (v ++ 34 :: 10 :: t)))[16 + v.length]? = some 34 := by
      have := get_pre (lowL (n ++ 58 :: 32 :: 34 :: v)) (lowL (34 :: 10 :: t)) 0
      rw [← lowL_append, lowL_length, show (n ++ 58 :: 32 :: 34 :: v).length + 0 = 16 + v.length from by simp [hn]; omega] at this
      simp only [List.append_assoc, List.cons_append] at this
      exact this
    obtain ⟨_, e2⟩ := List.getElem?_eq_some_iff.1 e
    rw [e2]
    rfl
  have hsk2 : scan (n ++ 58 :: 32 :: 34 :: (v ++ 34 :: 10 :: t)) (lowL (n ++ 58 :: 32 :: 34 :: (v ++ 34 :: 10 :: t))) (16 + v.length + 1) = scan (n ++ 58 :: 32 :: 34 :: (v ++ 34 :: 10 :: t)) (lowL (n ++ 58 :: 32 :: 34 :: (v ++ 34 :: 10 :: t))) (16 + v.length + 1 + 1) := by
    refine scan_skip hlen (by omega) ?_
    have e : (lowL (n ++ 58 :: 32 :: 34 :: (v ++ 34 :: 10 :: t)))[16 + v.length + 1]? = some 10 := by
      have := get_pre (lowL (n ++ 58 :: 32 :: 34 :: (v ++ [34]))) (lowL (10 :: t)) 0
      have e3 : (n ++ 58 :: 32 :: 34 :: (v ++ ([34] : List UInt8))).length + 0 = 16 + v.length + 1 := by simp [hn]; omega
      rw [← lowL_append, lowL_length, e3] at this
      simp only [List.append_assoc, List.cons_append, List.nil_append] at this
      exact this
    obtain ⟨_, e2⟩ := List.getElem?_eq_some_iff.1 e
    rw [e2]
    rfl
  simp only [Option.map_some, found, nextOf, List.cons_append, List.nil_append]
  rw [show 15 + (1 + v.length) = 16 + v.length from by omega, hsk1, hsk2, show 16 + v.length + 1 + 1 = 18 + v.length + 0 from by omega, key]
  congr 1
theorem swap_inv (f : UInt8 → Bool) (h : (List.range 256).all (fun n => f (swapC (UInt8.ofNat n)) == f (UInt8.ofNat n)) = true) (c : UInt8) : f (swapC c) = f c := by
  have := all_u8 (fun c => f (swapC c) == f c) h c
  simpa using this
theorem low_swap (c : UInt8) : lowC (swapC c) = lowC c := by
  have := all_u8 (fun c => lowC (swapC c) == lowC c) (by decide +kernel) c
  simpa using this
end Go.Proofs.Qxb6616246a
