/-
  The layers as they come in.
-/
import Derived.Test.Qxb6616084aGuards
import Derived.ChangeOld
import Derived.Deep.Strs
import Derived.ChangeSame
namespace Go.Proofs.Qxb6616084a
set_option linter.unusedVariables false
open Go.RowKit Go.ChangeShapes Go.WideShapes
theorem list_of {α : Type} {P : Nat → α → Prop} : ∀ (n : Nat), (∀ i, i < n → ∃ x, P i x) → ∃ l : List α, l.length = n ∧ ∀ i (h : i < l.length), P i l[i]
  | 0, _ => ⟨[], rfl, fun i h => by simp at h⟩
  | n + 1, h => by
    obtain ⟨l, h1, h2⟩ := list_of n (fun i hi => h i (by omega))
    obtain ⟨x, hx⟩ := h n (by omega)
    refine ⟨l ++ [x], by simp [h1], fun i hi => ?_⟩
    by_cases e : i < l.length
    · rw [List.getElem_append_left e]; exact h2 i e
    · simp at hi
      obtain rfl : i = l.length := by omega
      simp
      rw [h1]
      exact hx
theorem Try.cells9 : Try.prog.cellsOf 9 = 1 := by kernel_rfl
theorem Try.cells4 : Try.prog.cellsOf 4 = 1 := by kernel_rfl
theorem Try.cells38 : Try.prog.cellsOf 38 = 1 := by kernel_rfl
theorem Try.cells40 : Try.prog.cellsOf 40 = 3 := by kernel_rfl
theorem Try.cells50 : Try.prog.cellsOf 50 = 2 := by kernel_rfl
section
variable {H : Type} {enc : TypeId × Value → H} {w : World} {base : Nat} {spare : Nat → Bool} {held : Bool}
theorem open_pat {fuel : Nat} {cs : List Value} {x : DataW H × List MemPlace} (h : DataW.trod enc Try.prog w base spare held fuel 50 cs = some x) : ∃ (b : ByteArray) (t : Bool), cs = [.string b, .bool t] := by
  obtain ⟨y0, y1, n, _, hl, h0, h1⟩ := trod_struct2 Try.underlying50 h
  rw [Try.cells50] at hl
  match cs, hl with
  | [c0, c1], _ =>
    replace h0 : DataW.trod enc Try.prog w base spare held n 9 (([c0, c1].drop 0).take (Try.prog.cellsOf 9)) = some y0 := h0
    replace h1 : DataW.trod enc Try.prog w base spare held n 4 (([c0, c1].drop 1).take (Try.prog.cellsOf 4)) = some y1 := h1
    rw [Try.cells9] at h0
    rw [Try.cells4] at h1
    obtain ⟨s, e0, _⟩ := DataW.trod_string Try.underlying9 h0
    obtain ⟨t, e1, _⟩ := DataW.trod_bool Try.underlying4 h1
    simp at e0 e1
    exact ⟨s, t, by rw [e0, e1]⟩
theorem addr_plus (g o k : Nat) : Addr.add ⟨g, o, none⟩ k = ⟨g, o + k, none⟩ := by
  unfold Addr.add
  split
  · subst_vars; rfl
  · rfl
theorem spot0 {base : Nat} {a : Addr} {n : Nat} {cs : List Value} (h : w.cells? base (a.add (0 * n)) n = some cs) (hn : 0 < n) : ∃ g o, a = ⟨g, o, none⟩ := by
  obtain ⟨_, hl, hc⟩ := World.cells?_some h
  have h0 := hc 0 hn
  rw [List.getElem?_eq_getElem (by omega)] at h0
  have := World.cell?_spot h0
  obtain ⟨g, o, sp⟩ := a
  simp [Addr.add] at this
  exact ⟨g, o, by rw [this]⟩
theorem cells_at {base : Nat} {g o k n : Nat} {cs : List Value} (h : w.cells? base (Addr.add ⟨g, o, none⟩ k) n = some cs) (hn : 0 < n) : g < w.heap.size ∧ ∀ i, i < n → w.cell? ⟨g, o + k + i, none⟩ = cs[i]? := by
  have hb := World.cells?_block h hn
  obtain ⟨_, hl, hc⟩ := World.cells?_some h
  rw [addr_plus] at hb hc
  refine ⟨hb, fun i hi => ?_⟩
  have := hc i hi
  rwa [addr_plus] at this
theorem open_pats {fuel : Nat} {v : Value} {x : DataW H × List MemPlace} (h : DataW.trod enc Try.prog w base spare held fuel 38 [v] = some x) : ∃ ps, ReadsP w.heap.size v ps w := by
  rcases DataW.trod_slice Try.underlying38 h with ⟨h0, _⟩ | ⟨a, len, cap, elems, rest, n, _, hv, _, hb, hl, hm, hlen, hel, _, _⟩
  · simp at h0
    exact ⟨[], none, 0, by rw [h0]; rfl, Nat.le_refl _, by decide, fun j hj => by simp at hj⟩
  · have hsp : 0 < len → ∃ g o, a = ⟨g, o, none⟩ := fun hi => by
      have h1 := hel 0 hi
      rw [Try.cells50, List.getElem?_eq_getElem (by omega), Option.bind_eq_some_iff] at h1
      obtain ⟨cs, h2, h3⟩ := h1
      exact spot0 h2 (by omega)
    have hall : ∀ i, i < len → ∃ q : Pat, ∃ g o, a = ⟨g, o, none⟩ ∧ g < w.heap.size ∧ w.cell? ⟨g, o + i * 2, none⟩ = some (.string q.base) ∧ w.cell? ⟨g, o + i * 2 + 1, none⟩ = some (.bool q.tree) := fun i hi => by
      have h1 := hel i hi
      rw [Try.cells50, List.getElem?_eq_getElem (by omega), Option.bind_eq_some_iff] at h1
      obtain ⟨cs, h2, h3⟩ := h1
      obtain ⟨b, t, rfl⟩ := open_pat h3
      obtain ⟨g, o, rfl⟩ := hsp (by omega)
      obtain ⟨hg, hc⟩ := cells_at h2 (by omega)
      exact ⟨⟨b, t⟩, g, o, rfl, hg, hc 0 (by omega), hc 1 (by omega)⟩
    obtain ⟨ps, hp1, hp2⟩ := list_of len hall
    simp at hv
    refine ⟨ps, some a, cap, by rw [hv, hp1], by omega, hm, fun j hj => ?_⟩
    obtain ⟨g, o, e, h1, h2, h3⟩ := hp2 j hj
    exact ⟨g, o, by rw [e], h1, h2, h3⟩
theorem open_layer {fuel : Nat} {cs : List Value} {x : DataW H × List MemPlace} (h : DataW.trod enc Try.prog w base spare held fuel 40 cs = some x) : ∃ (nm : ByteArray) (pv : Value) (ps : List Pat) (iso : Bool), cs = [.string nm, pv, .bool iso] ∧ ReadsP w.heap.size pv ps w := by
  obtain ⟨y0, y1, y2, n, _, hl, h0, h1, h2⟩ := Go.Deep.trod_struct3 Try.underlying40 h
  rw [Try.cells40] at hl
  match cs, hl with
  | [c0, c1, c2], _ =>
    replace h0 : DataW.trod enc Try.prog w base spare held n 9 (([c0, c1, c2].drop 0).take (Try.prog.cellsOf 9)) = some y0 := h0
    replace h1 : DataW.trod enc Try.prog w base spare held n 38 (([c0, c1, c2].drop 1).take (Try.prog.cellsOf 38)) = some y1 := h1
    replace h2 : DataW.trod enc Try.prog w base spare held n 4 (([c0, c1, c2].drop 2).take (Try.prog.cellsOf 4)) = some y2 := h2
    rw [Try.cells9] at h0
    rw [Try.cells38] at h1
    rw [Try.cells4] at h2
    obtain ⟨s, e0, _⟩ := DataW.trod_string Try.underlying9 h0
    obtain ⟨ps, e1⟩ := open_pats (v := c1) h1
    obtain ⟨t, e2, _⟩ := DataW.trod_bool Try.underlying4 h2
    simp at e0 e2
    exact ⟨s, c1, ps, t, by rw [e0, e2], e1⟩
theorem open_layers {fuel : Nat} {v : Value} {x : DataW H × List MemPlace} (h : DataW.trod enc Try.prog w base spare held fuel 22 [v] = some x) : ∃ ls, ReadsL w.heap.size v ls w := by
  rcases DataW.trod_slice Try.underlying22 h with ⟨h0, _⟩ | ⟨a, len, cap, elems, rest, n, _, hv, _, hb, hl, hm, hlen, hel, _, _⟩
  · simp at h0
    exact ⟨[], none, 0, by rw [h0]; rfl, Nat.le_refl _, by decide, fun j hj => by simp at hj⟩
  · have hsp : 0 < len → ∃ g o, a = ⟨g, o, none⟩ := fun hi => by
      have h1 := hel 0 hi
      rw [Try.cells40, List.getElem?_eq_getElem (by omega), Option.bind_eq_some_iff] at h1
      obtain ⟨cs, h2, h3⟩ := h1
      exact spot0 h2 (by omega)
    have hall : ∀ i, i < len → ∃ l : Layer, ∃ g o pv, a = ⟨g, o, none⟩ ∧ g < w.heap.size ∧ w.cell? ⟨g, o + i * 3, none⟩ = some (.string l.name) ∧ w.cell? ⟨g, o + i * 3 + 1, none⟩ = some pv ∧ w.cell? ⟨g, o + i * 3 + 2, none⟩ = some (.bool l.iso) ∧ ReadsP w.heap.size pv l.pats w := fun i hi => by
      have h1 := hel i hi
      rw [Try.cells40, List.getElem?_eq_getElem (by omega), Option.bind_eq_some_iff] at h1
      obtain ⟨cs, h2, h3⟩ := h1
      obtain ⟨nm, pv, ps, iso, rfl, hp⟩ := open_layer h3
      obtain ⟨g, o, rfl⟩ := hsp (by omega)
      obtain ⟨hg, hc⟩ := cells_at h2 (by omega)
      exact ⟨⟨nm, ps, iso⟩, g, o, pv, rfl, hg, hc 0 (by omega), hc 1 (by omega), hc 2 (by omega), hp⟩
    obtain ⟨ls, hp1, hp2⟩ := list_of len hall
    simp at hv
    refine ⟨ls, some a, cap, by rw [hv, hp1], by omega, hm, fun j hj => ?_⟩
    obtain ⟨g, o, pv, e, h1, h2⟩ := hp2 j hj
    exact ⟨g, o, pv, by rw [e], h1, h2⟩
end
end Go.Proofs.Qxb6616084a
