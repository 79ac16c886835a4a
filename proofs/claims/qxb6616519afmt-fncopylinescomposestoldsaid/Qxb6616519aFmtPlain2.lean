/-
  The plain law of the second statement: lines selected out of lines selected.
-/
import Derived.Test.Qxb6616519aFmtPlain
namespace Go.Proofs.Qxb6616519aFmt
set_option linter.unusedVariables false
/-- Every piece is a line; only the last may lack its newline. -/
def GoodAt (ls : List (List UInt8)) : Prop := ∀ j, j < ls.length → 1 ≤ (ls.getD j []).length ∧ (nl (ls.getD j []) + 1 = (ls.getD j []).length ∨ (j + 1 = ls.length ∧ nl (ls.getD j []) = (ls.getD j []).length))
theorem getElem_nl : ∀ {l : List UInt8}, nl l < l.length → l[nl l]? = some 10
  | [], h => by simp [nl] at h
  | c :: l, h => by
    unfold nl at h ⊢
    rw [List.takeWhile_cons] at h ⊢
    split
    · rename_i hc
      rw [if_pos hc, List.length_cons, List.length_cons] at h
      rw [List.length_cons, List.getElem?_cons_succ]
      exact getElem_nl (l := l) (by unfold nl; omega)
    · rename_i hc
      have : c = 10 := by simpa using hc
      rw [this]
      rfl
theorem noNl_nl : ∀ (l : List UInt8), NoNl l (nl l)
  | [] => fun j hj => by simp [nl] at hj
  | c :: l => fun j hj => by
    unfold nl at hj
    rw [List.takeWhile_cons] at hj
    split at hj
    · rename_i hc
      rw [List.length_cons] at hj
      cases j with
      | zero => simpa using hc
      | succ i =>
        rw [List.getElem?_cons_succ]
        exact noNl_nl l i (by unfold nl; omega)
    · simp at hj
theorem nl_take {l : List UInt8} (h : nl l < l.length) : nl (l.take (nl l + 1)) = nl l :=
  nl_found (by rw [List.getElem?_take, if_pos (by omega)]; exact getElem_nl h) (fun j hj => by
    rw [List.getElem?_take, if_pos (by omega)]
    exact noNl_nl l j hj)
theorem lines_both : ∀ (n : Nat) (l : List UInt8), l.length ≤ n → GoodAt (lines l) ∧ (lines l).flatten = l
  | n, [], _ => by
    rw [lines_nil]
    exact ⟨fun j hj => by simp at hj, rfl⟩
  | 0, c :: l, h => by simp at h
  | n + 1, c :: l, h => by
    have hne : c :: l ≠ [] := by simp
    have h1 := lk_pos hne
    have h2 := lk_le (c :: l)
    obtain ⟨ih1, ih2⟩ := lines_both n ((c :: l).drop (lk (c :: l))) (by rw [List.length_drop]; omega)
    rw [lines_cons hne]
    refine ⟨fun j hj => ?_, ?_⟩
    · cases j with
      | zero =>
        rw [List.getD_cons_zero]
        have hl : ((c :: l).take (lk (c :: l))).length = lk (c :: l) := by rw [List.length_take]; omega
        refine ⟨by omega, ?_⟩
        by_cases e : nl (c :: l) < (c :: l).length
        · left
          have hk : lk (c :: l) = nl (c :: l) + 1 := by unfold lk; rw [if_pos e]
          rw [hl, hk, nl_take e]
        · right
          have hk : lk (c :: l) = (c :: l).length := by unfold lk; rw [if_neg e]
          rw [hk, List.drop_length, lines_nil, List.take_length]
          refine ⟨rfl, ?_⟩
          have := nl_le (c :: l)
          omega
      | succ i =>
        rw [List.length_cons] at hj
        have := ih1 i (by omega)
        rw [List.getD_cons_succ, List.length_cons]
        refine ⟨this.1, ?_⟩
        rcases this.2 with a | ⟨a, b⟩
        · exact .inl a
        · exact .inr ⟨by omega, b⟩
    · rw [List.flatten_cons, ih2, List.take_append_drop]
theorem nl_append {Y Z : List UInt8} (h : nl Y < Y.length) : nl (Y ++ Z) = nl Y :=
  nl_found (by rw [List.getElem?_append_left h]; exact getElem_nl h) (fun j hj => by
    rw [List.getElem?_append_left (by omega)]
    exact noNl_nl Y j hj)
theorem lines_flatten : ∀ (ls : List (List UInt8)), GoodAt ls → lines ls.flatten = ls
  | [], _ => rfl
  | Y :: ls, h => by
    have h0 := h 0 (by simp)
    rw [List.getD_cons_zero] at h0
    have hne : Y ≠ [] := fun e => by rw [e] at h0; simp at h0
    rcases h0.2 with a | ⟨a, b⟩
    · have hne2 : (Y :: ls).flatten ≠ [] := by rw [List.flatten_cons]; simp [hne]
      have hnl : nl (Y ++ ls.flatten) = nl Y := nl_append (by omega)
      have hk : lk (Y :: ls).flatten = Y.length := by
        unfold lk
        rw [List.flatten_cons, hnl, if_pos (by rw [List.length_append]; omega), a]
      have hg : GoodAt ls := fun j hj => by
        have := h (j + 1) (by rw [List.length_cons]; omega)
        rw [List.getD_cons_succ, List.length_cons] at this
        refine ⟨this.1, ?_⟩
        rcases this.2 with x | ⟨x, y⟩
        · exact .inl x
        · exact .inr ⟨by omega, y⟩
      rw [lines_cons hne2, hk, List.flatten_cons, List.take_left' rfl, List.drop_left' rfl, lines_flatten ls hg]
    · have hls : ls = [] := by
        rw [List.length_cons] at a
        exact List.length_eq_zero_iff.1 (by omega)
      subst hls
      have hk : lk Y = Y.length := by unfold lk; rw [if_neg (by omega)]
      rw [List.flatten_cons, List.flatten_nil, List.append_nil, lines_cons hne, hk, List.take_length, List.drop_length, lines_nil]
/-- Ascending, within N. -/
def Asc (N : Nat) (ev : List Int) : Prop := ∀ j, j < ev.length → okAt N ev j
theorem Asc.all {N : Nat} {ev : List Int} (h : Asc N ev) : ascL N 0 ev = ev.length :=
  ascL_eq N ev 0 ev.length (by omega) (Nat.le_refl _) h (.inl rfl)
theorem copied_all {T : List UInt8} {ev : List Int} (h : Asc (lines T).length ev) : runL 0 (lines T) (ev, []) = ([], pick (lines T) ev) := by
  rw [copied_lines, h.all, List.drop_length, List.take_length]
theorem pick_lines {T : List UInt8} {e : List Int} (h : Asc (lines T).length e) : lines (pick (lines T) e) = e.map fun x => (lines T).getD x.toNat [] := by
  refine lines_flatten _ (fun j hj => ?_)
  rw [List.length_map] at hj ⊢
  obtain ⟨g1, g2, g3⟩ := h j hj
  have hg : (e.map fun x => (lines T).getD x.toNat []).getD j [] = (lines T).getD (e.getD j 0).toNat [] := by
    have eg : e.getD j 0 = e[j] := by simp [List.getD, hj]
    rw [eg, List.getD, List.getElem?_map, List.getElem?_eq_getElem hj]
    rfl
  rw [hg]
  obtain ⟨a1, a2⟩ := (lines_both T.length T (Nat.le_refl _)).1 (e.getD j 0).toNat (by omega)
  refine ⟨a1, ?_⟩
  rcases a2 with a2 | ⟨a2, a3⟩
  · exact .inl a2
  · refine .inr ⟨?_, a3⟩
    rcases Nat.lt_or_ge (j + 1) e.length with hl | hl
    · obtain ⟨b1, b2, b3⟩ := h (j + 1) hl
      rw [Nat.add_sub_cancel] at b3
      rcases b3 with b3 | b3 <;> omega
    · omega
/-- The second choice, told in the first text. -/
def both (e p : List Int) : List Int := p.map fun i => e.getD i.toNat 0
theorem both_get {e p : List Int} (j : Nat) (h : j < p.length) : (both e p).getD j 0 = e.getD (p.getD j 0).toNat 0 := by
  unfold both
  rw [List.getD, List.getElem?_map, List.getElem?_eq_getElem h, List.getD, List.getD, List.getElem?_eq_getElem h]
  rfl
theorem asc_lt {N : Nat} {e : List Int} (h : Asc N e) : ∀ (d i : Nat), i + d + 1 < e.length → e.getD i 0 < e.getD (i + d + 1) 0
  | 0, i, hi => by
    have := (h (i + 1) hi).2.2
    rw [Nat.add_sub_cancel] at this
    rcases this with a | a
    · omega
    · exact a
  | d + 1, i, hi => by
    have h1 := asc_lt h d i (by omega)
    have h2 := (h (i + (d + 1) + 1) hi).2.2
    rw [Nat.add_sub_cancel] at h2
    rw [show i + d + 1 = i + (d + 1) by omega] at h1
    rcases h2 with a | a <;> omega
theorem Asc.both {N : Nat} {e p : List Int} (he : Asc N e) (hp : Asc e.length p) : Asc N (both e p) := fun j hj => by
  have hl : (Qxb6616519aFmt.both e p).length = p.length := by simp [Qxb6616519aFmt.both]
  rw [hl] at hj
  obtain ⟨a1, a2, a3⟩ := hp j hj
  unfold okAt
  rw [both_get j hj]
  obtain ⟨b1, b2, b3⟩ := he (p.getD j 0).toNat (by omega)
  refine ⟨b1, b2, ?_⟩
  rcases a3 with a3 | a3
  · exact .inl a3
  · rcases Nat.eq_zero_or_pos j with h0 | h0
    · exact .inl h0
    · right
      rw [both_get (j - 1) (by omega)]
      obtain ⟨c1, c2, _⟩ := hp (j - 1) (by omega)
      have := asc_lt he ((p.getD j 0).toNat - (p.getD (j - 1) 0).toNat - 1) (p.getD (j - 1) 0).toNat (by omega)
      rw [show (p.getD (j - 1) 0).toNat + ((p.getD j 0).toNat - (p.getD (j - 1) 0).toNat - 1) + 1 = (p.getD j 0).toNat by omega] at this
      exact this
theorem composed {T : List UInt8} {e p : List Int} (he : Asc (lines T).length e) (hp : Asc e.length p) :
    runL 0 (lines (pick (lines T) e)) (p, []) = ([], pick (lines T) (both e p)) := by
  have hlen : (lines (pick (lines T) e)).length = e.length := by rw [pick_lines he, List.length_map]
  rw [copied_all (by rw [hlen]; exact hp)]
  congr 1
  rw [pick_lines he]
  unfold pick both
  rw [List.map_map]
  congr 1
  refine List.map_congr_left (fun x hx => ?_)
  obtain ⟨j, hj, rfl⟩ := List.getElem_of_mem hx
  obtain ⟨a1, a2, _⟩ := hp j hj
  have hg : p.getD j 0 = p[j] := by simp [List.getD, hj]
  rw [hg] at a1 a2
  have hlt : (p[j]).toNat < e.length := by omega
  simp [List.getD, hlt]
/-- Every line. -/
def upTo (N : Nat) : List Int := (List.range N).map Int.ofNat
theorem upTo_len (N : Nat) : (upTo N).length = N := by simp [upTo]
theorem upTo_get {N j : Nat} (h : j < N) : (upTo N).getD j 0 = (j : Int) := by
  unfold upTo
  rw [List.getD, List.getElem?_map, List.getElem?_eq_getElem (by simpa using h)]
  simp
theorem asc_upTo (N : Nat) : Asc N (upTo N) := fun j hj => by
  rw [upTo_len] at hj
  unfold okAt
  rw [upTo_get hj]
  refine ⟨by omega, by omega, ?_⟩
  rcases Nat.eq_zero_or_pos j with h | h
  · exact .inl h
  · right
    rw [upTo_get (by omega)]
    omega
theorem pick_upTo : ∀ (ls : List (List UInt8)), pick ls (upTo ls.length) = ls.flatten := fun ls => by
  unfold pick upTo
  rw [List.map_map]
  congr 1
  apply List.ext_getElem?
  intro i
  rw [List.getElem?_map]
  rcases Nat.lt_or_ge i ls.length with h | h
  · rw [List.getElem?_eq_getElem (by simpa using h), List.getElem?_eq_getElem h]
    simp [h]
  · rw [List.getElem?_eq_none (by simpa using h), List.getElem?_eq_none h]
    rfl
theorem all_lines (T : List UInt8) : runL 0 (lines T) (upTo (lines T).length, []) = ([], T) := by
  rw [copied_all (asc_upTo _), pick_upTo, (lines_both T.length T (Nat.le_refl _)).2]
end Go.Proofs.Qxb6616519aFmt
