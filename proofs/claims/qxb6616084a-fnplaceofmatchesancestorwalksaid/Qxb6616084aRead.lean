/-
  Rows in memory: the rules' layers.
-/
import Derived.Test.Qxb6616084aClean
namespace Go.Proofs.Qxb6616084a
set_option linter.unusedVariables false
open Go.RowKit
theorem lt_of_block {w : World} {k : Nat} {o : Obj} (hk : w.heap[k]? = some o) : k < w.heap.size := by
  rcases Nat.lt_or_ge k w.heap.size with h' | h'
  · exact h'
  · simp [Array.getElem?_eq_none h'] at hk
theorem cell_at {w : World} {k : Nat} {cs : Array Value} {t : TypeId} {f : Nat × Nat} (h : w.heap[k]? = some (.cells cs t f)) (i : Nat) : w.cell? ⟨k, i, none⟩ = cs[i]? := by
  simp [World.cell?, h]
theorem frozen_at {w : World} {k : Nat} {cs : Array Value} {t : TypeId} (h : w.heap[k]? = some (.cells cs t (0, 0))) (i : Nat) : w.frozen? ⟨k, i, none⟩ = false := by
  simp [World.frozen?, h]
theorem heap_set {w : World} {k : Nat} {cs : Array Value} {t : TypeId} {f : Nat × Nat} (h : w.heap[k]? = some (.cells cs t f)) (i : Nat) (v : Value) : (w.setCell ⟨k, i, none⟩ v).heap[k]? = some (.cells (cs.setIfInBounds i v) t f) := by
  simp only [World.setCell, Array.getElem?_modify, h, if_pos, Option.map_some]
  rfl
theorem block_new (w : World) (o : Obj) : (w.alloc o).heap[w.heap.size]? = some o := by
  have h : (w.alloc o).heap = w.heap.push o := rfl
  rw [h]; simp
theorem PatsAt.below {B : Nat} {w w' : World} {a : Option Addr} {n : Nat} {ps : List Pat} (h : PatsAt B w a n ps) (hb : Below B w w') : PatsAt B w' a n ps :=
  ⟨h.len, fun j hj => by
    obtain ⟨g, o, b, t, e1, e2, e3, e4, e5⟩ := h.cell j hj
    exact ⟨g, o, b, t, e1, e2, e3, by rw [hb.cell (p := ⟨g, o + j * 2, none⟩) e2]; exact e4, by rw [hb.cell (p := ⟨g, o + j * 2 + 1, none⟩) e2]; exact e5⟩⟩
theorem LayersAt.below {B : Nat} {w w' : World} {a : Option Addr} {n : Nat} {ls : List Layer} (h : LayersAt B w a n ls) (hb : Below B w w') : LayersAt B w' a n ls :=
  ⟨h.len, fun j hj => by
    obtain ⟨g, o, a', n', cap', nm, ps, iso, e1, e2, e3, e4, e5, e6, e7, e8, e9⟩ := h.cell j hj
    exact ⟨g, o, a', n', cap', nm, ps, iso, e1, e2, e3, by rw [hb.cell (p := ⟨g, o + j * 3, none⟩) e2]; exact e4, by rw [hb.cell (p := ⟨g, o + j * 3 + 1, none⟩) e2]; exact e5, by rw [hb.cell (p := ⟨g, o + j * 3 + 2, none⟩) e2]; exact e6, e7, e8.below hb, e9.below hb⟩⟩
/-- A slice of the rules' layers, all below block B. -/
def ReadsR (B : Nat) (v : Value) (ls : List Layer) (w : World) : Prop :=
  ∃ a, v = .slice a ls.length ls.length ∧ ∀ i l, ls[i]? = some l → ∃ g o pv, a = some ⟨g, o, none⟩ ∧ g < B ∧ w.cell? ⟨g, o + i * 6, none⟩ = some (.string l.name) ∧ w.cell? ⟨g, o + i * 6 + 1, none⟩ = some pv ∧ w.cell? ⟨g, o + i * 6 + 2, none⟩ = some (.bool false) ∧ w.cell? ⟨g, o + i * 6 + 3, none⟩ = some (.slice none 0 0) ∧ w.cell? ⟨g, o + i * 6 + 4, none⟩ = some (.slice none 0 0) ∧ w.cell? ⟨g, o + i * 6 + 5, none⟩ = some (.bool l.iso) ∧ ReadsP B pv l.pats w
theorem ReadsR.below {B : Nat} {v : Value} {ls : List Layer} {w w' : World} (h : ReadsR B v ls w) (hb : Below B w w') : ReadsR B v ls w' := by
  obtain ⟨a, h1, h4⟩ := h
  refine ⟨a, h1, fun j l hj => ?_⟩
  obtain ⟨g, o, pv, e1, e2, f1, f2, f3, f4, f5, f6, e3⟩ := h4 j l hj
  exact ⟨g, o, pv, e1, e2, by rw [hb.cell (p := ⟨g, o + j * 6, none⟩) e2]; exact f1, by rw [hb.cell (p := ⟨g, o + j * 6 + 1, none⟩) e2]; exact f2, by rw [hb.cell (p := ⟨g, o + j * 6 + 2, none⟩) e2]; exact f3, by rw [hb.cell (p := ⟨g, o + j * 6 + 3, none⟩) e2]; exact f4, by rw [hb.cell (p := ⟨g, o + j * 6 + 4, none⟩) e2]; exact f5, by rw [hb.cell (p := ⟨g, o + j * 6 + 5, none⟩) e2]; exact f6, e3.below hb⟩
theorem ReadsR.up {B B' : Nat} {v : Value} {ls : List Layer} {w : World} (h : ReadsR B v ls w) (hb : B ≤ B') : ReadsR B' v ls w := by
  obtain ⟨a, h1, h4⟩ := h
  refine ⟨a, h1, fun j l hj => ?_⟩
  obtain ⟨g, o, pv, e1, e2, f1, f2, f3, f4, f5, f6, e3⟩ := h4 j l hj
  exact ⟨g, o, pv, e1, by omega, f1, f2, f3, f4, f5, f6, e3.up hb⟩
/-- The first j patterns stand in the row of block g. -/
def FillP (g n : Nat) (ps : List Pat) (j : Nat) (w : World) : Prop :=
  ∃ cur, w.heap[g]? = some (.cells cur 52 (0, 0)) ∧ cur.size = n * 2 ∧ ∀ k q, k < j → ps[k]? = some q → cur[k * 2]? = some (.string q.base) ∧ cur[k * 2 + 1]? = some (.bool q.tree)
theorem FillP.cell {g n j k : Nat} {ps : List Pat} {w : World} (h : FillP g n ps j w) (hk : k < n) : (∃ v, w.cell? ⟨g, k * 2, none⟩ = some v) ∧ (∃ v, w.cell? ⟨g, k * 2 + 1, none⟩ = some v) ∧ w.frozen? ⟨g, k * 2, none⟩ = false ∧ w.frozen? ⟨g, k * 2 + 1, none⟩ = false := by
  obtain ⟨cur, h1, h2, h3⟩ := h
  refine ⟨⟨_, by rw [cell_at h1]; exact Array.getElem?_eq_getElem (by omega)⟩, ⟨_, by rw [cell_at h1]; exact Array.getElem?_eq_getElem (by omega)⟩, frozen_at h1 _, frozen_at h1 _⟩
theorem FillP.set {g n j : Nat} {ps : List Pat} {b : ByteArray} {t : Bool} {w : World} (h : FillP g n ps j w) (hj : j < n) (hq : ps[j]? = some ⟨b, t⟩) :
    FillP g n ps (j + 1) ((w.setCell ⟨g, j * 2, none⟩ (.string b)).setCell ⟨g, j * 2 + 1, none⟩ (.bool t)) := by
  obtain ⟨cur, h1, h2, h3⟩ := h
  refine ⟨_, heap_set (heap_set h1 _ _) _ _, by simp [h2], fun k q hk hq' => ?_⟩
  by_cases e : k < j
  · obtain ⟨a1, a2⟩ := h3 k q e hq'
    constructor
    · rw [Array.getElem?_setIfInBounds_ne (by omega), Array.getElem?_setIfInBounds_ne (by omega)]; exact a1
    · rw [Array.getElem?_setIfInBounds_ne (by omega), Array.getElem?_setIfInBounds_ne (by omega)]; exact a2
  · obtain rfl : k = j := by omega
    rw [hq] at hq'
    cases hq'
    constructor
    · rw [Array.getElem?_setIfInBounds_ne (by omega), Array.getElem?_setIfInBounds_self_of_lt (by omega)]
    · rw [Array.getElem?_setIfInBounds_self_of_lt (by simp; omega)]
theorem FillP.of_heap {g n j : Nat} {ps : List Pat} {w w' : World} (h : FillP g n ps j w) (e : w'.heap[g]? = w.heap[g]?) : FillP g n ps j w' := by
  obtain ⟨cur, h1, h2⟩ := h
  exact ⟨cur, by rw [e]; exact h1, h2⟩
/-- The slice lies above block A. -/
def Above (A : Nat) (v : Value) : Prop := ∀ g o n cap, v = .slice (some ⟨g, o, none⟩) n cap → A < g
theorem FillP.reads {g n : Nat} {ps : List Pat} {w : World} (h : FillP g n ps n w) (hl : ps.length = n) (hn : n ≤ maxLen) : ReadsP w.heap.size (.slice (some ⟨g, 0, none⟩) n n) ps w := by
  obtain ⟨cur, h1, h2, h3⟩ := h
  refine ⟨_, n, by rw [hl], by omega, hn, fun j hj => ?_⟩
  obtain ⟨a1, a2⟩ := h3 j _ (by omega) (List.getElem?_eq_getElem hj)
  exact ⟨g, 0, rfl, lt_of_block h1, by rw [Nat.zero_add, cell_at h1]; exact a1, by rw [Nat.zero_add, cell_at h1]; exact a2⟩
theorem readsP_nil (B : Nat) (w : World) : ReadsP B (.slice none 0 0) [] w := ⟨none, 0, rfl, by simp, by decide, fun j hj => by simp at hj⟩
def LCell (cur : Array Value) (k : Nat) (l : Layer) (pv : Value) : Prop := cur[k * 6]? = some (.string l.name) ∧ cur[k * 6 + 1]? = some pv ∧ cur[k * 6 + 2]? = some (.bool false) ∧ cur[k * 6 + 3]? = some (.slice none 0 0) ∧ cur[k * 6 + 4]? = some (.slice none 0 0) ∧ cur[k * 6 + 5]? = some (.bool l.iso)
/-- The first i layers stand in the row of block G. -/
def BuiltTo (G n : Nat) (ls : List Layer) (i : Nat) (w : World) : Prop :=
  ∃ cur, w.heap[G]? = some (.cells cur 46 (0, 0)) ∧ cur.size = n * 6 ∧ ∀ k l, k < i → ls[k]? = some l → ∃ pv, LCell cur k l pv ∧ ReadsP w.heap.size pv l.pats w ∧ Above G pv
theorem BuiltTo.cell {G n i k : Nat} {ls : List Layer} {w : World} (h : BuiltTo G n ls i w) (hk : k < n) (c : Nat) (hc : c < 6) : (∃ v, w.cell? ⟨G, k * 6 + c, none⟩ = some v) ∧ w.frozen? ⟨G, k * 6 + c, none⟩ = false := by
  obtain ⟨cur, h1, h2, h3⟩ := h
  exact ⟨⟨_, by rw [cell_at h1]; exact Array.getElem?_eq_getElem (by omega)⟩, frozen_at h1 _⟩
theorem BuiltTo.below {G n i : Nat} {ls : List Layer} {w w' : World} (h : BuiltTo G n ls i w) (hb : Below w.heap.size w w') (hs : w.heap.size ≤ w'.heap.size) : BuiltTo G n ls i w' := by
  obtain ⟨cur, h1, h2, h3⟩ := h
  refine ⟨cur, by rw [hb.block G (lt_of_block h1)]; exact h1, h2, fun k l hk hl => ?_⟩
  obtain ⟨pv, a1, a2, a3⟩ := h3 k l hk hl
  exact ⟨pv, a1, (a2.below hb).up hs, a3⟩
def set6 (w : World) (G o : Nat) (l : Layer) (pv : Value) : World :=
  (((((w.setCell ⟨G, o, none⟩ (.string l.name)).setCell ⟨G, o + 1, none⟩ pv).setCell ⟨G, o + 2, none⟩ (.bool false)).setCell ⟨G, o + 3, none⟩ (.slice none 0 0)).setCell ⟨G, o + 4, none⟩ (.slice none 0 0)).setCell ⟨G, o + 5, none⟩ (.bool l.iso)
theorem set6_heap {w : World} {G : Nat} {cur : Array Value} (h : w.heap[G]? = some (.cells cur 46 (0, 0))) (o : Nat) (l : Layer) (pv : Value) :
    (set6 w G o l pv).heap[G]? = some (.cells ((((((cur.setIfInBounds o (.string l.name)).setIfInBounds (o + 1) pv).setIfInBounds (o + 2) (.bool false)).setIfInBounds (o + 3) (.slice none 0 0)).setIfInBounds (o + 4) (.slice none 0 0)).setIfInBounds (o + 5) (.bool l.iso)) 46 (0, 0)) :=
  heap_set (heap_set (heap_set (heap_set (heap_set (heap_set h _ _) _ _) _ _) _ _) _ _) _ _
theorem set6_other {w : World} {G : Nat} (o : Nat) (l : Layer) (pv : Value) {g : Nat} (hg : g ≠ G) : (set6 w G o l pv).heap[g]? = w.heap[g]? := by
  unfold set6
  rw [Below.heap_setCell _ _ _ _ hg, Below.heap_setCell _ _ _ _ hg, Below.heap_setCell _ _ _ _ hg, Below.heap_setCell _ _ _ _ hg, Below.heap_setCell _ _ _ _ hg, Below.heap_setCell _ _ _ _ hg]
theorem set6_size {w : World} (G o : Nat) (l : Layer) (pv : Value) : (set6 w G o l pv).heap.size = w.heap.size := by
  simp [set6, World.setCell]
theorem set6_below {B : Nat} {w0 w : World} (h : Below B w0 w) {G : Nat} (hG : B ≤ G) (o : Nat) (l : Layer) (pv : Value) : Below B w0 (set6 w G o l pv) :=
  (((((h.setCell (p := ⟨G, o, none⟩) hG _).setCell (p := ⟨G, o + 1, none⟩) hG _).setCell (p := ⟨G, o + 2, none⟩) hG _).setCell (p := ⟨G, o + 3, none⟩) hG _).setCell (p := ⟨G, o + 4, none⟩) hG _).setCell (p := ⟨G, o + 5, none⟩) hG _
theorem ReadsP.set6 {B : Nat} {v : Value} {ps : List Pat} {w : World} (h : ReadsP B v ps w) {G : Nat} (ha : Above G v) (o : Nat) (l : Layer) (pv : Value) : ReadsP B v ps (set6 w G o l pv) := by
  obtain ⟨a, cap, h1, h2, h3, h4⟩ := h
  refine ⟨a, cap, h1, h2, h3, fun j hj => ?_⟩
  obtain ⟨g, o', e1, e2, e3, e4⟩ := h4 j hj
  have hg : g ≠ G := by have := ha g o' _ _ (by rw [h1, e1]); omega
  exact ⟨g, o', e1, e2, by rw [World.cell?_of_block (a := ⟨g, o' + j * 2, none⟩) (set6_other o l pv hg)]; exact e3, by rw [World.cell?_of_block (a := ⟨g, o' + j * 2 + 1, none⟩) (set6_other o l pv hg)]; exact e4⟩
theorem BuiltTo.set {G n i : Nat} {ls : List Layer} {w : World} (h : BuiltTo G n ls i w) (hi : i < n) {l : Layer} (hl : ls[i]? = some l) {pv : Value} (hp : ReadsP w.heap.size pv l.pats w) (ha : Above G pv) :
    BuiltTo G n ls (i + 1) (set6 w G (i * 6) l pv) := by
  obtain ⟨cur, h1, h2, h3⟩ := h
  refine ⟨_, set6_heap h1 _ _ _, by simp [h2], fun k l' hk hl' => ?_⟩
  rw [set6_size]
  by_cases e : k < i
  · obtain ⟨pv', ⟨a1, a2, a3, a4, a5, a6⟩, b1, b2⟩ := h3 k l' e hl'
    refine ⟨pv', ⟨?_, ?_, ?_, ?_, ?_, ?_⟩, b1.set6 b2 _ _ _, b2⟩
    all_goals (rw [Array.getElem?_setIfInBounds_ne (by omega), Array.getElem?_setIfInBounds_ne (by omega), Array.getElem?_setIfInBounds_ne (by omega), Array.getElem?_setIfInBounds_ne (by omega), Array.getElem?_setIfInBounds_ne (by omega), Array.getElem?_setIfInBounds_ne (by omega)]; assumption)
  · obtain rfl : k = i := by omega
    rw [hl] at hl'
    cases hl'
    refine ⟨pv, ⟨?_, ?_, ?_, ?_, ?_, ?_⟩, hp.set6 ha _ _ _, ha⟩
    · rw [Array.getElem?_setIfInBounds_ne (by omega), Array.getElem?_setIfInBounds_ne (by omega), Array.getElem?_setIfInBounds_ne (by omega), Array.getElem?_setIfInBounds_ne (by omega), Array.getElem?_setIfInBounds_ne (by omega), Array.getElem?_setIfInBounds_self_of_lt (by omega)]
    · rw [Array.getElem?_setIfInBounds_ne (by omega), Array.getElem?_setIfInBounds_ne (by omega), Array.getElem?_setIfInBounds_ne (by omega), Array.getElem?_setIfInBounds_ne (by omega), Array.getElem?_setIfInBounds_self_of_lt (by simp; omega)]
    · rw [Array.getElem?_setIfInBounds_ne (by omega), Array.getElem?_setIfInBounds_ne (by omega), Array.getElem?_setIfInBounds_ne (by omega), Array.getElem?_setIfInBounds_self_of_lt (by simp; omega)]
    · rw [Array.getElem?_setIfInBounds_ne (by omega), Array.getElem?_setIfInBounds_ne (by omega), Array.getElem?_setIfInBounds_self_of_lt (by simp; omega)]
    · rw [Array.getElem?_setIfInBounds_ne (by omega), Array.getElem?_setIfInBounds_self_of_lt (by simp; omega)]
    · rw [Array.getElem?_setIfInBounds_self_of_lt (by simp; omega)]
theorem BuiltTo.reads {G n : Nat} {ls : List Layer} {w : World} (h : BuiltTo G n ls n w) (hl : ls.length = n) : ReadsR w.heap.size (.slice (some ⟨G, 0, none⟩) n n) ls w := by
  obtain ⟨cur, h1, h2, h3⟩ := h
  refine ⟨_, by rw [hl], fun i l hi => ?_⟩
  obtain ⟨pv, ⟨a1, a2, a3, a4, a5, a6⟩, b1, b2⟩ := h3 i l (by have := (List.getElem?_eq_some_iff.1 hi).1; omega) hi
  exact ⟨G, 0, pv, rfl, lt_of_block h1, by rw [Nat.zero_add, cell_at h1]; exact a1, by rw [Nat.zero_add, cell_at h1]; exact a2, by rw [Nat.zero_add, cell_at h1]; exact a3, by rw [Nat.zero_add, cell_at h1]; exact a4, by rw [Nat.zero_add, cell_at h1]; exact a5, by rw [Nat.zero_add, cell_at h1]; exact a6, b1⟩
end Go.Proofs.Qxb6616084a
