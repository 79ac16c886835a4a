/-
  Lines, plain; what the loop of 'eachLine' keeps.
-/
import Derived.Test.Qxb6616519aFmtStep
import Derived.Test.Qxb6616519aFmtLine
import Derived.Test.Qxb6616519aFmtMake
import Derived.Test.Qxb6616519aFmtErrs
import Derived.Test.Qxb6616519aFmtOwn
namespace Go.Proofs.Qxb6616519aFmt
set_option linter.unusedVariables false
open Go.RowKit
/-- How long the first line is, with its newline. -/
def lk (l : List UInt8) : Nat := if nl l < l.length then nl l + 1 else l.length
theorem lk_le (l : List UInt8) : lk l ≤ l.length := by unfold lk; split <;> omega
theorem lk_pos {l : List UInt8} (h : l ≠ []) : 1 ≤ lk l := by
  unfold lk
  have : 0 < l.length := List.length_pos_iff.2 h
  split <;> omega
def linesF : Nat → List UInt8 → List (List UInt8)
  | 0, _ => []
  | f + 1, l => if l = [] then [] else l.take (lk l) :: linesF f (l.drop (lk l))
theorem linesF_fuel : ∀ (f f' : Nat) (l : List UInt8), l.length < f → l.length < f' → linesF f l = linesF f' l
  | 0, _, _, h, _ => by omega
  | _, 0, _, _, h => by omega
  | f + 1, f' + 1, l, h, h' => by
    rw [linesF, linesF]
    by_cases e : l = []
    · rw [if_pos e, if_pos e]
    · rw [if_neg e, if_neg e]
      have := lk_pos e
      have := lk_le l
      rw [linesF_fuel f f' (l.drop (lk l)) (by rw [List.length_drop]; omega) (by rw [List.length_drop]; omega)]
/-- The lines of a text. -/
def lines (l : List UInt8) : List (List UInt8) := linesF (l.length + 1) l
theorem lines_nil : lines [] = [] := rfl
theorem lines_cons {l : List UInt8} (h : l ≠ []) : lines l = l.take (lk l) :: lines (l.drop (lk l)) := by
  unfold lines
  rw [linesF, if_neg h]
  have := lk_pos h
  have := lk_le l
  rw [linesF_fuel l.length ((l.drop (lk l)).length + 1) (l.drop (lk l)) (by rw [List.length_drop]; omega) (by omega)]
/-- All lines, from the n-th on. -/
def runL : Nat → List (List UInt8) → List Int × List UInt8 → List Int × List UInt8
  | _, [], s => s
  | n, Y :: ls, s => runL (n + 1) ls (stepC n Y s)
theorem stepC_len (n : Nat) (Y : List UInt8) (s : List Int × List UInt8) : (stepC n Y s).1.length ≤ s.1.length ∧ (stepC n Y s).2.length ≤ s.2.length + Y.length := by
  obtain ⟨ev, X⟩ := s
  unfold stepC
  cases ev with
  | nil => simp
  | cons e es =>
    simp only
    split
    · simp
    · simp
structure LoopAt (B Nn Ne Nw b R S K : Nat) (T : ByteArray) (q n : Nat) (g : Option Nat) (ev : List Int) (X : List UInt8) (vl : Value) (w : World) : Prop where
  cp : CopyAt B Nn Ne Nw b g n ev X w
  rd : ∃ r x p, RdAt R S K T r x p .nilIface w ∧ p - (x - r) = q
  lg : ∃ m xs, w.ownsRow B 5 1 vl m xs
  gK : g ≠ some K
  vK : vl.ownBlock ≠ some K
  vg : ∀ ql, vl.ownBlock = some ql → g ≠ some ql
  bR : B ≤ R
  bS : B ≤ S
  bK : B ≤ K
theorem owns_kept {w w' : World} {B m : Nat} {v : Value} {xs : List Value} (h : w.ownsRow B 5 1 v m xs) (hk : ∀ q, v.ownBlock = some q → w'.heap[q]? = w.heap[q]?) : w'.ownsRow B 5 1 v m xs := by
  obtain ⟨h1, h2⟩ := h
  refine ⟨h1, ?_⟩
  rcases h2 with h2 | ⟨g, cap, cur, rfl, e2, e3, e4⟩
  · exact .inl h2
  · exact .inr ⟨g, cap, cur, rfl, e2, (hk g rfl).trans e3, e4⟩
theorem owns_tag {w : World} {B m : Nat} {v : Value} {xs : List Value} (h : w.ownsRow B 5 1 v m xs) {k : Nat} {cs : Array Value} {t : TypeId} {f : Nat × Nat} (hk : w.heap[k]? = some (.cells cs t f)) (ht : t ≠ 5) : v.ownBlock ≠ some k := by
  rcases h.2 with ⟨rfl, _⟩ | ⟨g, cap, cur, rfl, e2, e3, e4⟩
  · simp [Value.ownBlock]
  · intro e
    simp [Value.ownBlock] at e
    subst e
    rw [e3] at hk
    cases hk
    exact ht rfl
theorem buf_tag {b : Nat} {g : Option Nat} {X : List UInt8} {w : World} (h : BufAt b g X w) : (∃ cs, w.heap[b]? = some (.cells cs 34 (0, 0))) ∧ ∀ k cs t f, w.heap[k]? = some (.cells cs t f) → t ≠ 5 → g ≠ some k := by
  obtain ⟨lr, ⟨rfl, _, hb⟩ | ⟨q, cap, cur, rfl, _, hb, hq, _⟩⟩ := h
  · exact ⟨⟨_, hb⟩, fun k cs t f _ _ e => by cases e⟩
  · refine ⟨⟨_, hb⟩, fun k cs t f hk ht e => ?_⟩
    cases e
    rw [hq] at hk
    cases hk
    exact ht rfl
theorem ne_tag {w : World} {k k' : Nat} {cs cs' : Array Value} {t t' : TypeId} {f f' : Nat × Nat} (h : w.heap[k]? = some (.cells cs t f)) (h' : w.heap[k']? = some (.cells cs' t' f')) (ht : t ≠ t') : k ≠ k' := by
  rintro rfl
  rw [h] at h'
  cases h'
  exact ht rfl
theorem CopyAt.kept {B Nn Ne Nw b : Nat} {g : Option Nat} {n : Nat} {ev : List Int} {X : List UInt8} {w w' : World} (h : CopyAt B Nn Ne Nw b g n ev X w) (hb : Below B w w') (h1 : w'.heap[Nn]? = w.heap[Nn]?) (h2 : w'.heap[Ne]? = w.heap[Ne]?) (h3 : w'.heap[Nw]? = w.heap[Nw]?) (h4 : w'.heap[b]? = w.heap[b]?) (h5 : ∀ q, g = some q → w'.heap[q]? = w.heap[q]?) :
    CopyAt B Nn Ne Nw b g n ev X w' := by
  obtain ⟨v, he, hE⟩ := h.ce
  exact ⟨h1.trans h.cn, ⟨v, h2.trans he, hE.below hb⟩, h3.trans h.cw, h.buf.kept h4 h5, h.bn, h.be, h.bw, h.bb, h.bg⟩
theorem RdAt.kept {R S K r x p : Nat} {T : ByteArray} {ev : Value} {w w' : World} (h : RdAt R S K T r x p ev w) (h1 : w'.heap[R]? = w.heap[R]?) (h2 : w'.heap[S]? = w.heap[S]?) (h3 : w'.heap[K]? = w.heap[K]?) : RdAt R S K T r x p ev w' := by
  obtain ⟨lb, lr, e1⟩ := h.red
  obtain ⟨pr, e2⟩ := h.str
  obtain ⟨kc, e3, e4⟩ := h.row
  exact ⟨⟨lb, lr, h1.trans e1⟩, ⟨pr, h2.trans e2⟩, ⟨kc, h3.trans e3, e4⟩, h.hr, h.hx, h.hp, h.hT, h.rs, h.rk, h.sk⟩
/-- Behind a ReadSlice. -/
theorem LoopAt.read {B Nn Ne Nw b R S K : Nat} {T : ByteArray} {q q' n : Nat} {g : Option Nat} {ev : List Int} {X : List UInt8} {vl : Value} {w w' : World} (h : LoopAt B Nn Ne Nw b R S K T q n g ev X vl w) (hk : Kept [R, S, K] w w')
    (hr : ∃ r x p, RdAt R S K T r x p .nilIface w' ∧ p - (x - r) = q') : LoopAt B Nn Ne Nw b R S K T q' n g ev X vl w' ∧ Below B w w' := by
  obtain ⟨r, x, p, hR, _⟩ := h.rd
  obtain ⟨lb, lr, e1⟩ := hR.red
  obtain ⟨pr, e2⟩ := hR.str
  obtain ⟨kc, e3, _⟩ := hR.row
  obtain ⟨v, he, hE⟩ := h.cp.ce
  obtain ⟨⟨cs, hb⟩, hg⟩ := buf_tag h.cp.buf
  obtain ⟨m, xs, ho⟩ := h.lg
  have hBw : B ≤ w.heap.size := Nat.le_trans h.bR (Nat.le_of_lt (lt_of_block e1))
  have hB : Below B w w' := hk.below B hBw (fun x hx => by simp at hx; rcases hx with rfl | rfl | rfl; exact h.bR; exact h.bS; exact h.bK)
  have hh : ∀ k, k < w.heap.size → k ≠ R → k ≠ S → k ≠ K → w'.heap[k]? = w.heap[k]? := fun k h0 h1 h2 h3 => hk.block k h0 (by simp; omega)
  refine ⟨⟨h.cp.kept hB (hh _ (lt_of_block h.cp.cn) (ne_tag h.cp.cn e1 (by decide)) (ne_tag h.cp.cn e2 (by decide)) (ne_tag h.cp.cn e3 (by decide))) (hh _ (lt_of_block he) (ne_tag he e1 (by decide)) (ne_tag he e2 (by decide)) (ne_tag he e3 (by decide)))
    (hh _ (lt_of_block h.cp.cw) (ne_tag h.cp.cw e1 (by decide)) (ne_tag h.cp.cw e2 (by decide)) (ne_tag h.cp.cw e3 (by decide))) (hh _ (lt_of_block hb) (ne_tag hb e1 (by decide)) (ne_tag hb e2 (by decide)) (ne_tag hb e3 (by decide))) (fun q hq => ?_), hr, ⟨m, xs, owns_kept ho (fun q hq => ?_)⟩, h.gK, h.vK, h.vg, h.bR, h.bS, h.bK⟩, hB⟩
  · subst hq
    have hlt : q < w.heap.size := by
      obtain ⟨lr, ⟨e, _⟩ | ⟨q', cap, cur, e, _, _, hq, _⟩⟩ := h.cp.buf
      · cases e
      · cases e; exact lt_of_block hq
    exact hh q hlt (fun e => hg R _ _ _ e1 (by decide) (by rw [e])) (fun e => hg S _ _ _ e2 (by decide) (by rw [e])) (fun e => h.gK (by rw [e]))
  · have hlt : q < w.heap.size := by
      rcases ho.2 with ⟨rfl, _⟩ | ⟨g', cap, cur, rfl, _, e5, _⟩
      · simp [Value.ownBlock] at hq
      · simp [Value.ownBlock] at hq
        subst hq
        exact lt_of_block e5
    exact hh q hlt (fun e => owns_tag ho e1 (by decide) (by rw [hq, e])) (fun e => owns_tag ho e2 (by decide) (by rw [hq, e])) (fun e => h.vK (by rw [hq, e]))
/-- Behind an append onto 'long'. -/
theorem LoopAt.grow {B Nn Ne Nw b R S K : Nat} {T : ByteArray} {q n : Nat} {g : Option Nat} {ev : List Int} {X : List UInt8} {vl v0 v' : Value} {w w' : World} (h : LoopAt B Nn Ne Nw b R S K T q n g ev X vl w) (e0 : v0.ownBlock = vl.ownBlock) (hg : w.grownBy w' v0.ownBlock) (m : Nat) (xs : List Value) (ho' : w'.ownsRow B 5 1 v' m xs)
    (hv : v'.ownBlock = v0.ownBlock ∨ ∃ k, v'.ownBlock = some k ∧ w.heap.size ≤ k) : LoopAt B Nn Ne Nw b R S K T q n g ev X v' w' ∧ Below B w w' := by
  rw [e0] at hg hv
  obtain ⟨r, x, p, hR, hq⟩ := h.rd
  obtain ⟨lb, lr, e1⟩ := hR.red
  obtain ⟨pr, e2⟩ := hR.str
  obtain ⟨kc, e3, _⟩ := hR.row
  obtain ⟨v, he, hE⟩ := h.cp.ce
  obtain ⟨⟨cs, hb⟩, hgt⟩ := buf_tag h.cp.buf
  obtain ⟨m0, xs0, ho⟩ := h.lg
  have hBw : B ≤ w.heap.size := Nat.le_trans h.bR (Nat.le_of_lt (lt_of_block e1))
  have hB : Below B w w' := ⟨hg.os, hg.tape, hg.output, hg.size, fun k hk => hg.block k (by omega) (fun e => by
    rcases ho.2 with ⟨rfl, _⟩ | ⟨g', cap, cur, rfl, e4, _⟩
    · simp [Value.ownBlock] at e
    · simp [Value.ownBlock] at e
      omega)⟩
  have hh : ∀ (k : Nat) (cs : Array Value) (t : TypeId) (f : Nat × Nat), w.heap[k]? = some (Obj.cells cs t f) → t ≠ 5 → w'.heap[k]? = w.heap[k]? := fun k cs t f hk ht => hg.block k (lt_of_block hk) (fun e => owns_tag ho hk ht e.symm)
  have hKs : w'.heap[K]? = w.heap[K]? := hg.block K (lt_of_block e3) (fun e => h.vK e.symm)
  have hgl : ∀ q, g = some q → q < w.heap.size := fun q hq => by
    subst hq
    obtain ⟨lr, ⟨e, _⟩ | ⟨q', cap, cur, e, _, _, hq, _⟩⟩ := h.cp.buf
    · cases e
    · cases e; exact lt_of_block hq
  refine ⟨⟨h.cp.kept hB (hh _ _ _ _ h.cp.cn (by decide)) (hh _ _ _ _ he (by decide)) (hh _ _ _ _ h.cp.cw (by decide)) (hh _ _ _ _ hb (by decide)) (fun q hq => hg.block q (hgl q hq) (fun e => h.vg q e.symm hq)), ⟨r, x, p, hR.kept (hh _ _ _ _ e1 (by decide)) (hh _ _ _ _ e2 (by decide)) hKs, hq⟩, ⟨m, xs, ho'⟩, h.gK, ?_, ?_, h.bR, h.bS, h.bK⟩, hB⟩
  · rcases hv with e | ⟨k, e, hk⟩
    · rw [e]; exact h.vK
    · rw [e]
      intro e'
      cases e'
      have := lt_of_block e3
      omega
  · intro ql hql hgq
    rcases hv with e | ⟨k, e, hk⟩
    · exact h.vg ql (e ▸ hql) hgq
    · rw [hql] at e
      cases e
      have := hgl ql hgq
      omega
/-- Behind a line. -/
theorem LoopAt.line {B Nn Ne Nw b R S K : Nat} {T : ByteArray} {q n n' : Nat} {g g' : Option Nat} {ev ev' : List Int} {X X' : List UInt8} {vl : Value} {w w' : World} (h : LoopAt B Nn Ne Nw b R S K T q n g ev X vl w) (hk : Kept (Nn :: Ne :: b :: g.toList) w w') (hc : CopyAt B Nn Ne Nw b g' n' ev' X' w')
    (hg : g' = g ∨ ∃ k, g' = some k ∧ w.heap.size ≤ k) : LoopAt B Nn Ne Nw b R S K T q n' g' ev' X' vl w' ∧ Below B w w' := by
  obtain ⟨r, x, p, hR, hq⟩ := h.rd
  obtain ⟨lb, lr, e1⟩ := hR.red
  obtain ⟨pr, e2⟩ := hR.str
  obtain ⟨kc, e3, _⟩ := hR.row
  obtain ⟨v, he, hE⟩ := h.cp.ce
  obtain ⟨⟨cs, hb⟩, hgt⟩ := buf_tag h.cp.buf
  obtain ⟨m0, xs0, ho⟩ := h.lg
  have hBw : B ≤ w.heap.size := Nat.le_trans h.bR (Nat.le_of_lt (lt_of_block e1))
  have hB : Below B w w' := hk.below B hBw (fun x hx => by
    simp only [List.mem_cons, Option.mem_toList] at hx
    rcases hx with rfl | rfl | rfl | hx
    · exact h.cp.bn
    · exact h.cp.be
    · exact h.cp.bb
    · exact h.cp.bg x hx)
  have nin : ∀ k, k ≠ Nn → k ≠ Ne → k ≠ b → g ≠ some k → k ∉ Nn :: Ne :: b :: g.toList := fun k a1 a2 a3 a4 => by
    simp only [List.mem_cons, Option.mem_toList, not_or]
    exact ⟨a1, a2, a3, a4⟩
  have hRs := hk.block R (lt_of_block e1) (nin R (ne_tag e1 h.cp.cn (by decide)) (ne_tag e1 he (by decide)) (ne_tag e1 hb (by decide)) (hgt R _ _ _ e1 (by decide)))
  have hSs := hk.block S (lt_of_block e2) (nin S (ne_tag e2 h.cp.cn (by decide)) (ne_tag e2 he (by decide)) (ne_tag e2 hb (by decide)) (hgt S _ _ _ e2 (by decide)))
  have hKs := hk.block K (lt_of_block e3) (nin K (ne_tag e3 h.cp.cn (by decide)) (ne_tag e3 he (by decide)) (ne_tag e3 hb (by decide)) h.gK)
  have hvl : ∀ ql, vl.ownBlock = some ql → ql < w.heap.size := fun ql hql => by
    rcases ho.2 with ⟨rfl, _⟩ | ⟨g', cap, cur, rfl, _, e5, _⟩
    · simp [Value.ownBlock] at hql
    · simp [Value.ownBlock] at hql
      subst hql
      exact lt_of_block e5
  refine ⟨⟨hc, ⟨r, x, p, hR.kept hRs hSs hKs, hq⟩, ⟨m0, xs0, owns_kept ho (fun ql hql => hk.block ql (hvl ql hql) (nin ql (fun e => owns_tag ho h.cp.cn (by decide) (by rw [hql, e])) (fun e => owns_tag ho he (by decide) (by rw [hql, e])) (fun e => owns_tag ho hb (by decide) (by rw [hql, e])) (h.vg ql hql)))⟩, ?_, h.vK, ?_, h.bR, h.bS, h.bK⟩, hB⟩
  · rcases hg with rfl | ⟨k, rfl, hk'⟩
    · exact h.gK
    · intro e
      cases e
      have := lt_of_block e3
      omega
  · intro ql hql
    rcases hg with rfl | ⟨k, rfl, hk'⟩
    · exact h.vg ql hql
    · intro e
      cases e
      have := hvl ql hql
      omega
end Go.Proofs.Qxb6616519aFmt
