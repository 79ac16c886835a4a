/-
  (*Secrets).redaction.
-/
import Derived.Test.Qxb6616271aText
import Derived.Laws.IdiomStrings
namespace Go.Proofs.Qxb6616271a
set_option linter.unusedVariables false
open Go.RowKit
abbrev Pairs := List (ByteArray × ByteArray)
def P0 : ByteArray × ByteArray := (ByteArray.empty, ByteArray.empty)
theorem flatS_at : ∀ (l : Pairs) (i : Nat), i < l.length → (flatS l)[i * 2]? = some (.string (l.getD i P0).1) ∧ (flatS l)[i * 2 + 1]? = some (.string (l.getD i P0).2)
  | [], i, h => by simp at h
  | p :: l, 0, _ => by simp [flatS]
  | p :: l, i + 1, h => by
    have := flatS_at l i (by simpa using h)
    rw [show flatS (p :: l) = .string p.1 :: .string p.2 :: flatS l from rfl, show (i + 1) * 2 = i * 2 + 2 from by omega, show i * 2 + 2 + 1 = (i * 2 + 1) + 2 from by omega]
    simpa using this
/-- What lies in memory while the redaction is made: H: where the call's own blocks begin. -/
structure St (w wr : World) (v ln : Value) (C : Option (List Int)) : Prop where
  rb : wr.heap[w.heap.size + 1 + 1]? = some (.cells #[.pointer (some ⟨w.heap.size + 1, 0, none⟩)] 36 (0, 0))
  tb : wr.heap[w.heap.size]? = some (.cells #[v] 30 (0, 0))
  red : RedAt wr w.heap.size (w.heap.size + 1) v ln C
  below : Below w.heap.size w wr
  size : w.heap.size + 3 ≤ wr.heap.size
theorem RedAt.alloc {w : World} {base R : Nat} {v ln : Value} {C : Option (List Int)} (h : RedAt w base R v ln C) (o : Obj) : RedAt (w.alloc o) base R v ln C := by
  obtain ⟨vc, h1, h2⟩ := h
  refine ⟨vc, by rw [Below.heap_alloc _ _ _ (lt_of_block h1)]; exact h1, ?_⟩
  cases C with
  | none => exact h2
  | some c =>
    obtain ⟨g, rfl, h3⟩ := h2
    exact ⟨g, rfl, h3.alloc _⟩
theorem St.alloc {w wr : World} {v ln : Value} {C : Option (List Int)} (h : St w wr v ln C) (o : Obj) : St w (wr.alloc o) v ln C :=
  ⟨by rw [Below.heap_alloc _ _ _ (lt_of_block h.rb)]; exact h.rb, by rw [Below.heap_alloc _ _ _ (lt_of_block h.tb)]; exact h.tb, h.red.alloc o, h.below.alloc (by have := h.size; omega) o, by have := h.size; simp; omega⟩
theorem St.drewN {w wr : World} {v ln : Value} {C : Option (List Int)} (h : St w wr v ln C) (q : Nat) : St w (wr.drewN q) v ln C :=
  ⟨h.rb, h.tb, h.red, ⟨h.below.os, h.below.tape, h.below.output, h.below.size, h.below.block⟩, h.size⟩
theorem St.drew {w wr : World} {v ln : Value} {C : Option (List Int)} (h : St w wr v ln C) : St w wr.drew v ln C :=
  ⟨h.rb, h.tb, h.red, ⟨h.below.os, h.below.tape, h.below.output, h.below.size, h.below.block⟩, h.size⟩
theorem St.still {w wr w' : World} {v ln : Value} {C C' : Option (List Int)} (h : St w wr v ln C) (hs : Still w.heap.size (w.heap.size + 1) wr w') (hr : RedAt w' w.heap.size (w.heap.size + 1) v ln C') : St w w' v ln C' :=
  ⟨hs.heap h.rb (by omega) (by decide), hs.heap h.tb (by omega) (by decide), hr, h.below.trans ((hs.below (Nat.le_refl _) (by omega) (by have := h.size; omega))), by have := h.size; have := hs.size; omega⟩
theorem St.start (w : World) (v ln : Value) : St w (((w.alloc (.cells #[v] 30 (0, 0))).alloc (.cells #[v, .slice none 0 0, .slice none 0 0, ln] 52 (0, 0))).alloc (.cells #[.pointer (some ⟨w.heap.size + 1, 0, none⟩)] 36 (0, 0))) v ln none := by
  have h1 := block_new ((w.alloc (.cells #[v] 30 (0, 0))).alloc (.cells #[v, .slice none 0 0, .slice none 0 0, ln] 52 (0, 0))) (.cells #[.pointer (some ⟨w.heap.size + 1, 0, none⟩)] 36 (0, 0))
  have h2 := block_new (w.alloc (.cells #[v] 30 (0, 0))) (.cells #[v, .slice none 0 0, .slice none 0 0, ln] 52 (0, 0))
  have h3 := block_new w (.cells #[v] 30 (0, 0))
  simp only [World.size_alloc] at h1 h2
  refine ⟨h1, ?_, ⟨.slice none 0 0, ?_, rfl⟩, ?_, by simp only [World.size_alloc]; omega⟩
  · rw [Below.heap_alloc _ _ _ (by simp only [World.size_alloc]; omega), Below.heap_alloc _ _ _ (by simp only [World.size_alloc]; omega)]; exact h3
  · rw [Below.heap_alloc _ _ _ (by simp only [World.size_alloc]; omega)]; exact h2
  · exact (((Below.refl _ _).alloc (Nat.le_refl _) _).alloc (by simp) _).alloc (by simp only [World.size_alloc]; omega) _
theorem take_snoc (l : Pairs) (k : Nat) (h : k < l.length) : ((l.take (k + 1)).map fun p => p.1.data.toList) = ((l.take k).map fun p => p.1.data.toList) ++ [(l.getD k P0).1.data.toList] := by
  rw [List.take_add_one, List.map_append, List.getD, List.getElem?_eq_getElem h]
  rfl
theorem conv_lies (w : World) (tx : ByteArray) (cc : Nat) (f : Nat × Nat) : Lies (w.alloc (.cells (bytesRow tx cc) 5 f)).drew w.heap.size 0 tx.data.toList := by
  intro j hj
  rw [Nat.zero_add]
  show (w.alloc (.cells (bytesRow tx cc) 5 f)).cell? ⟨w.heap.size, j, none⟩ = _
  rw [World.cell?_alloc_mark, bytesRow_at tx cc j (by simpa using hj)]
  have hj' : j < tx.data.size := by simpa using hj
  rw [List.getD, Array.getElem?_toList, Array.getElem?_eq_getElem hj']
  rfl
theorem conv_tag (w : World) (tx : ByteArray) (cc : Nat) (f : Nat × Nat) : ∃ cs f', (w.alloc (.cells (bytesRow tx cc) 5 f)).drew.heap[w.heap.size]? = some (.cells cs 5 f') := ⟨_, _, block_new w _⟩
theorem reads_lies {w w' : World} {g c : Nat} {X : List UInt8} (h : ReadsB w (.slice (some ⟨g, 0, none⟩) X.length c) X) (hb : Below w.heap.size w w') : Lies w' g 0 X := by
  obtain ⟨a, cap, e, _, h⟩ := h.below hb
  simp only [Value.slice.injEq] at e
  obtain ⟨rfl, _, _⟩ := e
  intro j hj
  obtain ⟨g', o', e, hc⟩ := h j hj
  simp only [Option.some.injEq, Addr.mk.injEq] at e
  obtain ⟨rfl, rfl, _⟩ := e
  exact hc
/-- One search of the text, from place j on. -/
theorem search (gt j B5 cc : Nat) (X : List UInt8) (tx : ByteArray) (m : Int) (w0 w : World) (hX : ReadsB w0 (.slice (some ⟨gt, 0, none⟩) X.length X.length) X) (hb : Below w0.heap.size w0 w) (hB : Lies w B5 0 tx.data.toList)
    (hj : j ≤ X.length) (hn : X.length ≤ 1048576) (ht : 0 < tx.size) (ht1 : tx.size ≤ 1048576) (hm : w.cell? ⟨0, 0, none⟩ = some (.int .i64 m)) :
    Calls Try.prog 21 #[.slice (if X.length = j then some ⟨gt, 0, none⟩ else some ⟨gt, j, none⟩) (X.length - j) (X.length - j), .slice (some ⟨B5, 0, none⟩) tx.size cc] w fun e w' => ∃ r, e = .returned (.int .i64 r) ∧ (∃ q, w' = w.drewN q) ∧
      ((r < 0 ∧ Hid (∀ v C, occM X tx.data.toList v j C = C)) ∨ ∃ i : Nat, r = (i : Int) ∧ j + i + tx.size ≤ X.length ∧ Hid (∀ v C, occM X tx.data.toList v j C = occM X tx.data.toList v (j + i + tx.size) (coverM X.length C (j + i) (j + i + tx.size) v))) := by
  have hlen : tx.data.toList.length = tx.size := len_eq tx
  have IX : Calls Try.prog 21 #[.slice (if X.length = j then some ⟨gt, 0, none⟩ else some ⟨gt, j, none⟩) (X.length - j) (X.length - j), .slice (some ⟨B5, 0, none⟩) tx.size cc] w fun e w' => e = .returned (.int .i64 (Lib.index (X.drop j) tx.data.toList)) ∧ ∃ q, w' = w.drewN q := by
    by_cases e : X.length = j
    · have hd : X.drop j = [] := List.drop_of_length_le (by omega)
      have IX := index_any gt 0 (X.length - j) B5 0 cc (X.drop j) tx.data.toList m w (fun i hi => by rw [hd] at hi; simp at hi) hB (by rw [List.length_drop]; omega) (by rw [List.length_drop]; omega) (by omega) hm
      rw [List.length_drop, hlen] at IX
      rw [if_pos e]
      exact IX
    · have IX := index_any gt (0 + j) (X.length - j) B5 0 cc (X.drop j) tx.data.toList m w ((reads_lies hX hb).drop j) hB (by rw [List.length_drop]; omega) (by rw [List.length_drop]; omega) (by omega) hm
      rw [List.length_drop, hlen, Nat.zero_add] at IX
      rw [if_neg e]
      exact IX
  refine IX.mono ?_
  rintro e w' ⟨rfl, hq⟩
  refine ⟨_, rfl, hq, ?_⟩
  obtain ⟨r, HR⟩ : ∃ r, Lib.index (X.drop j) tx.data.toList = r := ⟨_, rfl⟩
  rw [HR]
  by_cases hr : r < 0
  · exact .inl ⟨hr, fun v C => occM_none (by rw [HR]; exact hr)⟩
  · obtain ⟨i, rfl⟩ : ∃ i : Nat, r = (i : Int) := ⟨r.toNat, by omega⟩
    have IP := index_place (l := X.drop j) (t := tx.data.toList) (by rw [HR]; omega)
    rw [HR, List.length_drop, hlen] at IP
    have IP' : i + tx.size ≤ X.length - j := by simpa using IP
    refine .inr ⟨i, rfl, by omega, fun v C => ?_⟩
    rw [occM_step (by rw [hlen]; omega) HR, hlen]
/-- One cover, while the redaction is made. -/
theorem cover_step (i f t q : Nat) (X : List UInt8) (tx : ByteArray) (B5 : Nat) (w wr : World) (v : Value) (C : Option (List Int)) (h : St w wr v (.int .i64 X.length) C) (hC : Sized X.length C) (hB : Lies wr B5 0 tx.data.toList)
    (hT : ∃ cs f, wr.heap[B5]? = some (.cells cs 5 f)) (h5 : w.heap.size + 1 < B5) (hft : f ≤ t) (htn : t ≤ X.length) (hn : X.length ≤ 1048576) (hi : i ≤ 100000) {a : Option Addr} {cp : Nat} (hv : v = .slice a X.length cp := by rfl) :
    Calls Try.prog 20 #[.int .i64 f, .int .i64 t, .int .i64 i, .pointer (some ⟨w.heap.size + 1 + 1, 0, none⟩), .pointer (some ⟨w.heap.size, 0, none⟩)] (wr.drewN q) fun e w' => e = .returned (.tuple #[]) ∧
      Hid (St w w' v (.int .i64 X.length) (coverM X.length C f t ((i : Int) + 1))) ∧ Hid (Sized X.length (coverM X.length C f t ((i : Int) + 1))) ∧ Hid (Lies w' B5 0 tx.data.toList) ∧ Hid (∃ cs f, w'.heap[B5]? = some (.cells cs 5 f)) := by
  obtain ⟨cs, fz, hT⟩ := hT
  refine (cover_any w.heap.size (w.heap.size + 1) (w.heap.size + 1 + 1) w.heap.size v (.int .i64 X.length) a X.length cp f t i C (wr.drewN q) hv hn hi hft htn hC h.rb h.tb (by omega) (by omega) (h.red.drewN q) (by have := h.size; show _ ≤ wr.heap.size; omega)).mono ?_
  rintro e w' ⟨rfl, h1, h2⟩
  refine ⟨rfl, (h.drewN q).still h2 h1, hC.cover _ _ _, fun j hj => h2.cell (k := B5) hT (by omega) (by decide) (hB j hj), cs, fz, h2.heap hT (by omega) (by decide)⟩
theorem search_nil (B5 cc : Nat) (tx : ByteArray) (w : World) (hB : Lies w B5 0 tx.data.toList) (ht : 0 < tx.size) (ht1 : tx.size ≤ 1048576) :
    Calls Try.prog 21 #[.slice none 0 0, .slice (some ⟨B5, 0, none⟩) tx.size cc] w fun e w' => e = .returned (.int .i64 (-1)) ∧ w' = w := by
  have h := Try.bytes_Index_nil (some ⟨B5, 0, none⟩) tx.size cc w (by omega) (fun _ => ⟨B5, 0, _, rfl, hB 0 (by rw [len_eq]; omega)⟩)
  rw [if_neg (by omega)] at h
  exact h
theorem occ_nil (t : List UInt8) (v : Int) (C : Option (List Int)) (ht : 0 < t.length) : occM [] t v 0 C = C := by
  apply occM_none
  apply Classical.byContradiction
  intro hn
  have := index_place hn
  rw [List.drop_nil, List.length_nil] at this
  omega
/-- How long the redacted text is. -/
def lenOf (X : List UInt8) (C : Option (List Int)) (ml : List Nat) : Int := match C with | none => X.length | some c => IntKind.i64.wrap (plen c ml 0 : Nat)
/-- WHAT redaction HANDS BACK. -/
def RedDone (w : World) (R : Nat) (X : List UInt8) (C : Option (List Int)) (ml : List Nat) : Prop :=
  ∃ v vc vm, w.heap[R]? = some (.cells #[v, vc, vm, .int .i64 (lenOf X C ml)] 52 (0, 0)) ∧ ReadsC w vc C
theorem CovOwn.reads {w : World} {base : Nat} {vc : Value} {C : Option (List Int)} (h : CovOwn w base vc C) : ReadsC w vc C := by
  cases C with
  | none => exact h
  | some c =>
    obtain ⟨g, rfl, ho⟩ := h
    refine ⟨g, 0, c.length, rfl, fun j hj => ?_⟩
    rw [Nat.zero_add, ho.cellAt j (by omega)]
    simp [covV, List.getD, List.getElem?_eq_getElem hj]
/-- What lies in memory while the marks are made. -/
structure Sm (w wr : World) (g M n tn : Nat) (v : Value) (ln : Int) (c : List Int) (xs : List Value) : Prop where
  rb : wr.heap[w.heap.size + 1 + 1]? = some (.cells #[.pointer (some ⟨w.heap.size + 1, 0, none⟩)] 36 (0, 0))
  red : wr.heap[w.heap.size + 1]? = some (.cells #[v, .slice (some ⟨g, 0, none⟩) n n, .slice (some ⟨M, 0, none⟩) tn tn, .int .i64 ln] 52 (0, 0))
  cov : wr.ownsRow w.heap.size 21 1 (.slice (some ⟨g, 0, none⟩) n n) n (covV c)
  mks : wr.ownsRow w.heap.size 30 1 (.slice (some ⟨M, 0, none⟩) tn tn) tn xs
  below : Below w.heap.size w wr
  size : w.heap.size + 3 ≤ wr.heap.size
  hM : w.heap.size + 3 ≤ M
theorem Sm.alloc {w wr : World} {g M n tn : Nat} {v : Value} {ln : Int} {c : List Int} {xs : List Value} (h : Sm w wr g M n tn v ln c xs) (o : Obj) : Sm w (wr.alloc o) g M n tn v ln c xs :=
  ⟨by rw [Below.heap_alloc _ _ _ (lt_of_block h.rb)]; exact h.rb, by rw [Below.heap_alloc _ _ _ (lt_of_block h.red)]; exact h.red, h.cov.alloc _, h.mks.alloc _, h.below.alloc (by have := h.size; omega) o, by have := h.size; simp; omega, h.hM⟩
theorem Sm.drewN {w wr : World} {g M n tn : Nat} {v : Value} {ln : Int} {c : List Int} {xs : List Value} (h : Sm w wr g M n tn v ln c xs) (q : Nat) : Sm w (wr.drewN q) g M n tn v ln c xs :=
  ⟨h.rb, h.red, h.cov, h.mks, ⟨h.below.os, h.below.tape, h.below.output, h.below.size, h.below.block⟩, h.size, h.hM⟩
theorem Sm.drew {w wr : World} {g M n tn : Nat} {v : Value} {ln : Int} {c : List Int} {xs : List Value} (h : Sm w wr g M n tn v ln c xs) : Sm w wr.drew g M n tn v ln c xs :=
  ⟨h.rb, h.red, h.cov, h.mks, ⟨h.below.os, h.below.tape, h.below.output, h.below.size, h.below.block⟩, h.size, h.hM⟩
theorem Sm.mark {w wr : World} {g M n tn : Nat} {v : Value} {ln : Int} {c : List Int} {xs : List Value} (h : Sm w wr g M n tn v ln c xs) (k : Nat) (u : Value) (hgM : g ≠ M) : Sm w (wr.setCell ⟨M, k, none⟩ u) g M n tn v ln c (xs.set k u) := by
  have h1 := h.hM
  refine ⟨by rw [Below.heap_setCell _ _ _ _ (by show _ ≠ M; omega)]; exact h.rb, by rw [Below.heap_setCell _ _ _ _ (by show _ ≠ M; omega)]; exact h.red, ?_, (h.mks.stored k u).1, h.below.setCell (by show _ ≤ M; omega) u, by simpa using h.size, h1⟩
  exact ownsRow_setCell_other h.cov (by simp [Value.ownBlock]; omega) _
theorem heap_set {w : World} {R : Nat} {cs : Array Value} {e : TypeId} {f : Nat × Nat} (h : w.heap[R]? = some (.cells cs e f)) (k : Nat) (u : Value) : (w.setCell ⟨R, k, none⟩ u).heap[R]? = some (.cells (cs.setIfInBounds k u) e f) := by
  have hlt := lt_of_block h
  have h' : w.heap[R] = .cells cs e f := by simpa [Array.getElem?_eq_getElem hlt] using h
  show (w.heap.modify R _)[R]? = _
  rw [Array.getElem?_eq_getElem (by simpa using hlt), Array.getElem_modify_self, h']
  rfl
theorem Try.info30 : (Try.prog.info? 30).map (fun i => (i.zero, i.size, i.bytes)) = some (some (.slice none 0 0), 1, 24) := by kernel_rfl
theorem marks_made {w wr : World} {g n tn : Nat} {v : Value} {ln : Int} {c : List Int} (h : St w wr v (.int .i64 ln) (some c)) (hR : wr.heap[w.heap.size + 1]? = some (.cells #[v, .slice (some ⟨g, 0, none⟩) n n, .slice none 0 0, .int .i64 ln] 52 (0, 0)))
    (ho : wr.ownsRow w.heap.size 21 1 (.slice (some ⟨g, 0, none⟩) n n) n (covV c)) (htn : tn ≤ maxLen) :
    Sm w ((wr.alloc (.cells (madeCells #[.slice none 0 0] tn) 30)).setCell ⟨w.heap.size + 1, 2, none⟩ (.slice (some ⟨wr.heap.size, 0, none⟩) tn tn)) g wr.heap.size n tn v ln c (madeCells #[.slice none 0 0] tn).toList := by
  have h2 := h.size
  have hb := h.below.size
  have hR1 : (wr.alloc (.cells (madeCells #[.slice none 0 0] tn) 30)).heap[w.heap.size + 1]? = some (.cells #[v, .slice (some ⟨g, 0, none⟩) n n, .slice none 0 0, .int .i64 ln] 52 (0, 0)) := by rw [Below.heap_alloc _ _ _ (lt_of_block hR)]; exact hR
  refine ⟨?_, heap_set hR1 2 _, ?_, ?_, (h.below.alloc (by omega) _).setCell (by show _ ≤ w.heap.size + 1; omega) _, by simp; omega, h2⟩
  · rw [Below.heap_setCell _ _ _ _ (by show _ ≠ w.heap.size + 1; omega), Below.heap_alloc _ _ _ (lt_of_block h.rb)]; exact h.rb
  · exact ownsRow_setCell_other (ho.alloc _) (ownBlock_tag ho hR (by decide)) _
  · have h1 := World.ownsRow_lit (base := w.heap.size) (e := 30) (size := 1) wr (madeCells #[.slice none 0 0] tn) tn (by omega) htn (by rw [size_madeCells]; omega)
    exact ownsRow_setCell_other h1 (by simp [Value.ownBlock]; omega) _
theorem Sm.reset {w wr : World} {g M n tn : Nat} {v : Value} {ln : Int} {c : List Int} {xs : List Value} (h : Sm w wr g M n tn v ln c xs) (z : Int) : Sm w (wr.setCell ⟨w.heap.size + 1, 3, none⟩ (.int .i64 z)) g M n tn v z c xs := by
  have h1 := h.hM
  have h2 := h.size
  refine ⟨by rw [Below.heap_setCell _ _ _ _ (by show _ ≠ w.heap.size + 1; omega)]; exact h.rb, heap_set h.red 3 _, ?_, ?_, h.below.setCell (by show _ ≤ w.heap.size + 1; omega) _, by simpa using h2, h1⟩
  · exact ownsRow_setCell_other h.cov (ownBlock_tag h.cov h.red (by decide)) _
  · exact ownsRow_setCell_other h.mks (ownBlock_tag h.mks h.red (by decide)) _
theorem broken_nil (B5 cc : Nat) (tx : ByteArray) (w : World) (hB : Lies w B5 0 tx.data.toList) (ht : 0 < tx.size) (ht1 : tx.size ≤ 1048576) (hc : tx.size ≤ cc) (hc2 : cc ≤ maxLen) :
    Calls Try.prog 23 #[.slice none 0 0, .slice (some ⟨B5, 0, none⟩) tx.size cc] w fun e w' => e = .returned (.int .i64 0) ∧ w' = w := by
  have h := broken_any (.slice none 0 0) [] tx.data.toList B5 0 cc w ⟨none, 0, rfl, Nat.le_refl _, fun j hj => by simp at hj⟩ hB (by simp) (by rw [len_eq]; omega) (by rw [len_eq]; omega) (by rw [len_eq]; omega) hc2
  rw [len_eq] at h
  have e : brk [] tx.data.toList = 0 := by have := brk_le [] tx.data.toList; simpa using this
  rw [e] at h
  exact h
set_option maxRecDepth 100000 in
set_option maxHeartbeats 1000000 in
theorem redaction_nil (S bS g cap : Nat) (l : Pairs) (cut : Bool) (w : World) (hl0 : 0 < l.length)
    (hS : w.heap[S]? = some (.cells #[.map none, .slice (some ⟨g, 0, none⟩) l.length cap] 47 (0, 0))) (hO : w.ownsRow bS 49 2 (.slice (some ⟨g, 0, none⟩) l.length cap) l.length (flatS l))
    (hl : l.length ≤ 65536) (hp : ∀ i, i < l.length → 0 < (l.getD i P0).1.size ∧ (l.getD i P0).1.size ≤ 1048576 ∧ (l.getD i P0).2.size ≤ 1048576) (ml : List Nat) :
    Calls Try.prog 19 #[.pointer (some ⟨S, 0, none⟩), .slice none 0 0, .bool cut, .bool false] w fun e w' => ∃ R, e = .returned (.pointer (some ⟨R, 0, none⟩)) ∧ RedDone w' R [] none ml ∧ Below w.heap.size w w' := by
  have hnil := fun (a : Option Addr) (n c : Nat) (w : World) => Lib.run_eql_slice_nil (P := Try.prog) w 39 21 a n c 0 0 Try.underlying39
  have hconv := fun (s : ByteArray) (w : World) => run_bytes_of_string (P := Try.prog) w 9 30 5 s Try.underlying9 Try.underlying30 Try.underlying5
  have HO := hide hO
  have HP := hide hp
  have HS := hide hS
  have s1 : w.cell? ⟨S, 1, none⟩ = some (.slice (some ⟨g, 0, none⟩) l.length cap) := by simp [World.cell?, hS]
  have hSl : S < w.heap.size := World.block_lt_of_cell? _ _ s1
  have s2 : ∀ o o' o'', (((w.alloc o).alloc o').alloc o'').cell? ⟨S, 1, none⟩ = some (.slice (some ⟨g, 0, none⟩) l.length cap) := fun o o' o'' => by
    rw [World.cell?_alloc_past _ _ _ (show S < _ by simp only [World.size_alloc]; omega), World.cell?_alloc_past _ _ _ (show S < _ by simp only [World.size_alloc]; omega), World.cell?_alloc_past _ _ _ hSl]; exact s1
  clear hO hp hS
  refine callsIn_wide.1 (callsIn_of_wp_marks (n := 3) Try.func19 rfl trivial ?_)
  refine wpIn_wide.2 ?_
  simp only [Try.ntmps19, List.size_toArray, List.length_cons, List.length_nil, Nat.reduceAdd, Nat.reduceSub, Array.replicate_succ, Array.replicate_zero, List.push_toArray, List.append_toArray, List.nil_append, List.cons_append]
  have hl1 : ((l.length : Int) == 0) = false := beq_eq_false_iff_ne.2 (by omega)
  have HI := hide (St.start w (.slice none 0 0) (.int .i64 0))
  go_wp2
  go_loopw [42] (fun i wr => ∃ k : Nat, k ≤ l.length ∧ i = .int .i64 k ∧ Hid (St w wr (.slice none 0 0) (.int .i64 0) none)) (fun i _ => l.length - (intOf i).toNat)
  case atStart => exact ⟨0, by omega, rfl, HI.out⟩
  case round =>
    clear HI
    obtain ⟨k, hk, rfl, ST⟩ := hrel
    by_cases hlt : k < l.length
    · have hg : g < w.heap.size := World.block_lt_of_cell? w ⟨g, 0, none⟩ (HO.out.cellAt 0 (by omega) |>.trans (flatS_at l 0 (by omega)).1)
      have c1 : wr.cell? ⟨g, k * 2, none⟩ = some (.string (l.getD k P0).1) := by
        rw [ST.out.below.cell (p := ⟨g, k * 2, none⟩) hg, HO.out.cellAt (k * 2) (by omega)]
        exact (flatS_at l k hlt).1
      have c2 : wr.cell? ⟨g, k * 2 + 1, none⟩ = some (.string (l.getD k P0).2) := by
        rw [ST.out.below.cell (p := ⟨g, k * 2 + 1, none⟩) hg, HO.out.cellAt (k * 2 + 1) (by omega)]
        exact (flatS_at l k hlt).2
      have PK := hide (HP.out k hlt)
      generalize l.getD k P0 = pk at c1 c2 PK
      obtain ⟨tx, nm⟩ := pk
      obtain ⟨pk1, pk2, pk3⟩ : 0 < tx.size ∧ tx.size ≤ 1048576 ∧ nm.size ≤ 1048576 := PK.out
      clear PK
      obtain ⟨cc, hcc⟩ : ∃ cc, grownCap (wr.alloc (.cells #[.string tx, .string nm] 49 (0, 0))) tx.size 0 5 = cc := ⟨_, rfl⟩
      have hcc1 : tx.size ≤ cc := by rw [← hcc]; exact grownCap_ge _ _ _ _
      have hcc2 : cc ≤ maxLen := by rw [← hcc]; exact grownCap_le_maxLen _ _ _ _ (by unfold maxLen; omega)
      have ST1 : Hid (∀ o, St w ((wr.alloc (.cells #[.string tx, .string nm] 49 (0, 0))).alloc o).drew (.slice none 0 0) (.int .i64 0) none) := fun o => ((ST.out.alloc _).alloc o).drew
      have LI := hide (conv_lies (wr.alloc (.cells #[.string tx, .string nm] 49 (0, 0))) tx cc ((bytesRow tx cc).size, (bytesRow tx cc).size + 1))
      have LB := hide (conv_tag (wr.alloc (.cells #[.string tx, .string nm] 49 (0, 0))) tx cc ((bytesRow tx cc).size, (bytesRow tx cc).size + 1))
      simp only [World.size_alloc] at LI LB
      have hB : w.heap.size + 1 < wr.heap.size + 1 := by have := ST.out.size; omega
      have hlen : tx.data.toList.length = tx.size := len_eq tx
      go_wp2
      generalize hB5 : wr.heap.size + 1 = B5 at LI LB hB ⊢
      clear hB5
      have O := hide (fun (v : Int) C => occ_nil tx.data.toList v C (by omega))
      go_loopw [14] (fun i wr2 => i = .int .i64 0 ∧ Hid (St w wr2 (.slice none 0 0) (.int .i64 0) none) ∧ Hid (Lies wr2 B5 0 tx.data.toList) ∧ Hid (∃ cs f, wr2.heap[B5]? = some (.cells cs 5 f))) (fun i _ => 0)
      case atStart => exact ⟨rfl, ST1.out _, LI.out, LB.out⟩
      case round =>
        clear ST1 LI LB ST c1 c2 hcc
        obtain ⟨rfl, ST2, LI, LB⟩ := hrel
        have t1 : wr.cell? ⟨w.heap.size, 0, none⟩ = some (.slice none 0 0) := cell_of_one ST2.out.tb
        have SR := hide (search_nil B5 cc tx wr LI.out (by omega) (by omega))
        have BR := hide (broken_nil B5 cc tx wr LI.out (by omega) (by omega) (by omega) hcc2)
        have CV0 := hide (cover_same (w.heap.size + 1 + 1) w.heap.size 0 k wr)
        go_wp2_with (first | (go_at_call 21; refine SR.out.mono ?_; rintro e w' ⟨rfl, rfl⟩) | (go_at_call 23; refine BR.out.mono ?_; rintro e w' ⟨rfl, rfl⟩) | (go_at_call 20; refine CV0.out.mono ?_; rintro e w' ⟨rfl, rfl⟩))
        · have hct : cut = true := by assumption
          subst hct
          go_roundw
          case rel => exact ⟨k + 1, by omega, by go_num, ST2⟩
          case measure => simp [intOf]; omega
        · exact ⟨⟨k + 1, by omega, by go_num, ST2⟩, by simp [intOf]; omega⟩
    · obtain ⟨vc, r1, r2⟩ := ST.out.red
      have c1 : wr.cell? ⟨w.heap.size + 1, 1, none⟩ = some vc := by simp [World.cell?, r1]
      have c2 : wr.cell? ⟨w.heap.size + 1 + 1, 0, none⟩ = some (.pointer (some ⟨w.heap.size + 1, 0, none⟩)) := cell_of_one ST.out.rb
      obtain rfl : vc = .slice none 0 0 := r2
      have DN : Hid (RedDone wr (w.heap.size + 1) [] none ml) := ⟨_, _, _, r1, rfl⟩
      have BL := hide ST.out.below
      clear r1
      go_wp2
      exact ⟨_, results_tmp rfl _ _ _, _, rfl, DN.out, BL.out⟩
end Go.Proofs.Qxb6616271a
