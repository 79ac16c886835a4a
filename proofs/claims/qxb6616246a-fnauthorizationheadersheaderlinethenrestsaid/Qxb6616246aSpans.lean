/-
  ZZscanSpans.
-/
import Derived.Test.Qxb6616246aAdd
import Derived.Test.Qxb6616246aOwn
namespace Go.Proofs.Qxb6616246a
set_option linter.unusedVariables false
open Go.RowKit
theorem Try.info3 : (Try.prog.info? 3).map (fun i => (i.zero, i.size, i.bytes)) = some (some (.int .i64 0), 1, 8) := by kernel_rfl
def ints (l : List Int) : List Value := l.map (Value.int .i64)
theorem ints_snoc (l : List Int) (x : Int) : ints (l ++ [x]) = ints l ++ [.int .i64 x] := by simp [ints]
/-- Two rows of numbers, apart from each other, in memory from H on. -/
def TwoRows (H : Nat) (wr : World) (vs ve : Value) (A E : List Int) : Prop :=
  wr.ownsRow H 3 1 vs A.length (ints A) ∧ wr.ownsRow H 3 1 ve E.length (ints E) ∧ (vs.ownBlock = none ∨ vs.ownBlock ≠ ve.ownBlock)
theorem two_mid {H : Nat} {wr w1 : World} {vs ve : Value} {A E : List Int} {o : Obj} (h : TwoRows H wr vs ve A E) (hg : (wr.alloc o).grownBy w1 vs.ownBlock) :
    w1.ownsRow H 3 1 ve E.length (ints E) := by
  obtain ⟨_, h2, h3⟩ := h
  refine (h2.alloc o).kept hg ?_
  rcases h3 with h3 | h3
  · rw [h3]
    cases ve.ownBlock
    · exact .inl rfl
    · exact .inr (by simp)
  · exact .inr h3.symm
theorem two_apart {H : Nat} {wr w1 : World} {vs ve v1 : Value} {A E : List Int} (h : TwoRows H wr vs ve A E)
    (hf : v1.ownBlock = vs.ownBlock ∨ ∃ g, v1.ownBlock = some g ∧ wr.heap.size + 1 ≤ g) : v1.ownBlock = none ∨ v1.ownBlock ≠ ve.ownBlock := by
  obtain ⟨_, h2, h3⟩ := h
  rcases hf with hf | ⟨g, hf, hg⟩
  · rw [hf]; exact h3
  · refine .inr fun e => ?_
    rw [hf] at e
    have := (h2.lt g e.symm).2
    omega
theorem two_end {H : Nat} {w1 w2 : World} {ve v1 v2 : Value} {A E : List Int} {o : Obj} (h1 : w1.ownsRow H 3 1 v1 A.length (ints A)) (ha : v1.ownBlock = none ∨ v1.ownBlock ≠ ve.ownBlock)
    (hg : (w1.alloc o).grownBy w2 ve.ownBlock) (h2 : w2.ownsRow H 3 1 v2 E.length (ints E)) (hf : v2.ownBlock = ve.ownBlock ∨ ∃ g, v2.ownBlock = some g ∧ w1.heap.size + 1 ≤ g) :
    TwoRows H w2 v1 v2 A E := by
  refine ⟨(h1.alloc o).kept hg ha, h2, ?_⟩
  rcases ha with ha | ha
  · exact .inl ha
  · refine .inr ?_
    rcases hf with hf | ⟨g, hf, hg⟩
    · rw [hf]; exact ha
    · intro e
      rw [hf] at e
      have := (h1.lt g e).2
      omega
theorem one_new (w : World) (x : Value) (e : TypeId) : ∀ j u, [x][j]? = some u → (w.alloc (.cells #[x] e)).cell? ((⟨w.heap.size, 0, none⟩ : Addr).add j) = some u := by
  intro j u hj
  match j, hj with
  | 0, hj => simp at hj; subst hj; simp [Addr.add]
theorem flat_get (sp : List (Int × Int)) : ∀ k, k < sp.length → (flat sp)[k * 2]? = some (.int .i64 (sp.getD k (0, 0)).1) ∧ (flat sp)[k * 2 + 1]? = some (.int .i64 (sp.getD k (0, 0)).2) := by
  induction sp with
  | nil => intro k h; simp at h
  | cons a l ih =>
    intro k h
    have e : flat (a :: l) = [.int .i64 a.1, .int .i64 a.2] ++ flat l := rfl
    cases k with
    | zero => simp [e]
    | succ k =>
      have := ih k (by simpa using h)
      rw [e]
      constructor
      · rw [List.getElem?_append_right (by simp; omega)]
        simp only [List.length_cons, List.length_nil, List.getD_cons_succ]
        rw [show (k + 1) * 2 - (0 + 1 + 1) = k * 2 from by omega]
        exact this.1
      · rw [List.getElem?_append_right (by simp; omega)]
        simp only [List.length_cons, List.length_nil, List.getD_cons_succ]
        rw [show (k + 1) * 2 + 1 - (0 + 1 + 1) = k * 2 + 1 from by omega]
        exact this.2
theorem scan_shape {w : World} {base B : Nat} {t lo : ByteArray} {sp : List (Int × Int)} (h : ScanAt w base B t lo sp) :
    ∃ a cap, w.heap[B]? = some (.cells #[.string t, .string lo, .map none, .slice a sp.length cap] 43 (0, 0)) ∧
      ∀ k, k < sp.length → ∃ g, a = some ⟨g, 0, none⟩ ∧ g < w.heap.size ∧ w.cell? ⟨g, k * 2, none⟩ = some (.int .i64 (sp.getD k (0, 0)).1) ∧ w.cell? ⟨g, k * 2 + 1, none⟩ = some (.int .i64 (sp.getD k (0, 0)).2) := by
  obtain ⟨v, hB, ho⟩ := h
  rcases ho.2 with ⟨rfl, h0⟩ | ⟨g, cap, cur, rfl, hb, hg, _⟩
  · exact ⟨none, 0, by rw [h0]; exact hB, fun k hk => by omega⟩
  · refine ⟨_, cap, hB, fun k hk => ⟨g, rfl, lt_of_block hg, ?_, ?_⟩⟩
    · rw [ho.cellAt (k * 2) (by omega)]; exact (flat_get sp k hk).1
    · rw [ho.cellAt (k * 2 + 1) (by omega)]; exact (flat_get sp k hk).2
theorem take_map_snoc {α : Type} (f : Int × Int → α) (sp : List (Int × Int)) (k : Nat) (h : k < sp.length) : (sp.take (k + 1)).map f = (sp.take k).map f ++ [f (sp.getD k (0, 0))] := by
  rw [List.take_succ_eq_append_getElem h, List.map_append]
  simp [List.getD, List.getElem?_eq_getElem h]
set_option maxHeartbeats 1000000 in
theorem spans_any (base B : Nat) (t lo : ByteArray) (sp : List (Int × Int)) (w : World) (h : ScanAt w base B t lo sp) (hl : sp.length ≤ 1000000000) :
    Calls Try.prog 13 #[.pointer (some ⟨B, 0, none⟩)] w fun e w' => ∃ vs ve, e = .returned (.tuple #[vs, ve]) ∧ TwoRows w.heap.size w' vs ve (sp.map Prod.fst) (sp.map Prod.snd) ∧ Below w.heap.size w w' := by
  obtain ⟨i0, hi, hz0, hz1, hz2⟩ := info_parts Try.info3
  obtain ⟨a, cap, hB, hc⟩ := scan_shape h
  have hBlt := lt_of_block hB
  have HC := hide hc
  have HB := hide hB
  clear hc hB h
  go_enter Try.func13, Try.ntmps13
  go_wp2
  go_loopw [2, 3, 4] (fun vs ve i wr => ∃ k : Nat, k ≤ sp.length ∧ i = .int .i64 k ∧ Hid (Below w.heap.size w wr) ∧ Hid (TwoRows w.heap.size wr vs ve ((sp.take k).map Prod.fst) ((sp.take k).map Prod.snd))) (fun _ _ i _ => sp.length - (intOf i).toNat)
  case atStart => exact ⟨0, by omega, rfl, Below.refl _ _, World.ownsRow_nil _ _ _ _, World.ownsRow_nil _ _ _ _, .inl rfl⟩
  case round =>
    obtain ⟨k, hk, rfl, HW, HT⟩ := hrel
    have c3 : wr.cell? ⟨B, 3, none⟩ = some (.slice a sp.length cap) := by
      rw [HW.out.cell (p := ⟨B, 3, none⟩) hBlt]; simp [World.cell?, HB.out]
    by_cases hlt : k < sp.length
    · obtain ⟨g, rfl, hg, q1, q2⟩ := HC.out k hlt
      have E1 := hide (take_map_snoc Prod.fst sp k hlt)
      have E2 := hide (take_map_snoc Prod.snd sp k hlt)
      have r1 : wr.cell? ⟨g, k * 2, none⟩ = some (.int .i64 (sp.getD k (0, 0)).1) := by rw [HW.out.cell (p := ⟨g, k * 2, none⟩) hg]; exact q1
      have r2 : wr.cell? ⟨g, k * 2 + 1, none⟩ = some (.int .i64 (sp.getD k (0, 0)).2) := by rw [HW.out.cell (p := ⟨g, k * 2 + 1, none⟩) hg]; exact q2
      have hkl1 : ((sp.take k).map Prod.fst).length = k := by simp; omega
      have hkl2 : ((sp.take k).map Prod.snd).length = k := by simp; omega
      have L1 := hide hkl1
      have L2 := hide hkl2
      clear q1 q2 hkl1 hkl2
      generalize (sp.getD k (0, 0)).1 = x1 at r1 E1
      generalize (sp.getD k (0, 0)).2 = x2 at r2 E2
      generalize (sp.take k).map Prod.fst = A at L1 HT E1
      generalize (sp.take k).map Prod.snd = E at L2 HT E2
      have hsz := HW.out.size
      go_wp2_with (at_builtin; refine wpList_append_own2 _ rfl (.tmp 14) (.tmp 23) 22 rfl w.heap.size 3 i0 (.int .i64 0) 1 8 Try.underlying22 hi hz0 hz1 hz2 rfl (by decide) u2 A.length (ints A) ?a1 (HT.out.1.alloc _) ⟨wr.heap.size, 0, none⟩ 1 1 [.int .i64 x1] ?a2 rfl ?a3 ?a4 ?a5 ?a6 ?a7 ?_)
      case a1 => rfl
      case a2 => rfl
      case a3 => exact one_new _ _ _
      case a4 => intro u hu; simp at hu; subst hu; rfl
      case a5 => rw [L1.out]; unfold maxLen; omega
      case a6 => rw [L1.out]; omega
      case a7 => simp; omega
      intro v1 w1 ho1 hg1 hn1 hf1
      have M := hide (two_mid HT.out hg1)
      have AP := hide (two_apart (w1 := w1) HT.out hf1)
      have O1 : Hid (w1.ownsRow w.heap.size 3 1 v1 (A ++ [x1]).length (ints (A ++ [x1]))) := by
        show w1.ownsRow _ _ _ _ _ _
        rw [ints_snoc, List.length_append]; exact ho1
      have HW1 : Hid (Below w.heap.size w w1) := (HW.out.alloc hsz _).grown hg1 (by simp; omega) (fun k e => (HT.out.1.lt k e).1)
      have c3' : w1.cell? ⟨B, 3, none⟩ = some (.slice (some ⟨g, 0, none⟩) sp.length cap) := by
        rw [HW1.out.cell (p := ⟨B, 3, none⟩) hBlt]; simp [World.cell?, HB.out]
      have r2' : w1.cell? ⟨g, k * 2 + 1, none⟩ = some (.int .i64 x2) := by
        rw [HW1.out.cell (p := ⟨g, k * 2 + 1, none⟩) hg, ← HW.out.cell (p := ⟨g, k * 2 + 1, none⟩) hg]; exact r2
      have hsz1 := HW1.out.size
      clear ho1 hg1 hn1 hf1 c3 r1 r2 HT HW hsz
      go_wp2_with (at_builtin; refine wpList_append_own2 _ rfl (.tmp 25) (.tmp 34) 22 rfl w.heap.size 3 i0 (.int .i64 0) 1 8 Try.underlying22 hi hz0 hz1 hz2 rfl (by decide) u3 E.length (ints E) ?b1 (M.out.alloc _) ⟨w1.heap.size, 0, none⟩ 1 1 [.int .i64 x2] ?b2 rfl ?b3 ?b4 ?b5 ?b6 ?b7 ?_)
      case b1 => rfl
      case b2 => rfl
      case b3 => exact one_new _ _ _
      case b4 => intro u hu; simp at hu; subst hu; rfl
      case b5 => rw [L2.out]; unfold maxLen; omega
      case b6 => rw [L2.out]; omega
      case b7 => simp; omega
      intro v2 w2 ho2 hg2 hn2 hf2
      have O2 : w2.ownsRow w.heap.size 3 1 v2 (E ++ [x2]).length (ints (E ++ [x2])) := by
        rw [ints_snoc, List.length_append]; exact ho2
      have T2 := hide (two_end O1.out AP.out hg2 O2 hf2)
      have HW2 : Hid (Below w.heap.size w w2) := (HW1.out.alloc hsz1 _).grown hg2 (by simp; omega) (fun k e => (M.out.lt k e).1)
      clear ho2 hg2 hn2 hf2 O2 O1 AP M HW1 c3' r2' hsz1
      go_wp2
      go_roundw
      case rel => exact ⟨k + 1, by omega, by go_num, HW2, by rw [E1.out, E2.out]; exact T2⟩
      case measure => simp [intOf]; omega
    · have e : sp.take k = sp := List.take_of_length_le (by omega)
      rw [e] at HT
      go_wp2
      go_ret2
      exact ⟨_, _, rfl, HT.out, HW.out⟩
end Go.Proofs.Qxb6616246a
