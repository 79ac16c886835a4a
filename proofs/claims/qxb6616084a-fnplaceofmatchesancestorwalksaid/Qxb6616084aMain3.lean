/-
  'FnPlaceOfMatchesAncestorWalk'.
-/
import Derived.Test.Qxb6616084aZz
import Derived.Test.Qxb6616084aModel2
import Derived.Test.Qxb6616084aBuild
import Derived.Deep.QuietTactic
import Derived.BigQuiet
namespace Go.Proofs.Qxb6616084a
set_option linter.unusedVariables false
open Go.RowKit
theorem drewNB (B : Nat) (w : World) (n : Nat) : Below B w (w.drewN n) := ⟨rfl, rfl, rfl, Nat.le_refl _, fun _ _ => rfl⟩
/-- What the walk upward tells. -/
def MFacts (ls : List Layer) (d : ByteArray) (x : Int) (u : ByteArray) (ti : Bool) (p : ByteArray) (i1 i2 : Int) : Prop :=
  (Nn ls d.data.toList ∧ x = -1 ∧ u = ⟨#[]⟩ ∧ ti = false) ∨
  (∃ (b : ByteArray) (t : Bool) (f s : Int), Top ls d.data.toList b.data.toList t ∧ First2 ls b.data.toList t ls.length f s ∧ ¬ f < 0 ∧ ¬ 0 ≤ s ∧ x = f ∧ u = ⟨(Un b.data.toList d.data.toList).toArray⟩ ∧ ti = false) ∨
  (∃ (b : ByteArray) (t : Bool) (f s : Int), Top ls d.data.toList b.data.toList t ∧ First2 ls b.data.toList t ls.length f s ∧ ¬ f < 0 ∧ 0 ≤ s ∧ ti = true ∧ p = spellB b t ∧ i1 = f ∧ i2 = s)
theorem MPost.shapes {ls : List Layer} {d : ByteArray} {w : World} {e : Ending} {w' : World} (h : MPost ls d w e w') : w' = w ∧
    ∃ x u ti p i1 i2, e = .returned (.tuple #[.int .i64 x, .string u, .bool ti, .string p, .int .i64 i1, .int .i64 i2]) ∧ MFacts ls d x u ti p i1 i2 := by
  obtain ⟨hw, ⟨h1, h2⟩ | ⟨b, t, f, s, h1, h2, h3, h4, h5⟩⟩ := h
  · exact ⟨hw, _, _, _, _, _, _, h2, .inl ⟨h1, rfl, rfl, rfl⟩⟩
  · unfold verd at h5
    split at h5
    · rename_i hs
      exact ⟨hw, _, _, _, _, _, _, h5, .inr (.inr ⟨b, t, f, s, h2, h3, h4, hs, rfl, rfl, rfl, rfl⟩)⟩
    · rename_i hs
      exact ⟨hw, _, _, _, _, _, _, h5, .inr (.inl ⟨b, t, f, s, h2, h3, h4, hs, rfl, rfl, rfl⟩)⟩
theorem str_eq {a b : ByteArray} (h : a.data.toList = b.data.toList) : a = b := by
  have : a.data = b.data := Array.toList_inj.1 h
  cases a; cases b
  simp at this
  rw [this]
/-- The place's block and the two names'. -/
structure PN (P Q : Nat) (x : Int) (u m1 m2 : ByteArray) (W : World) : Prop where
  h1 : W.heap[P]? = some (.cells #[.int .i64 x, .string u] 32 (0, 0))
  h2 : W.heap[Q]? = some (.cells #[.string m1, .string m2] 33 (0, 0))
theorem PN.cells {P Q : Nat} {x : Int} {u m1 m2 : ByteArray} {W : World} (h : PN P Q x u m1 m2 W) :
    W.cell? ⟨P, 0, none⟩ = some (.int .i64 x) ∧ W.cell? ⟨P, 1, none⟩ = some (.string u) ∧ W.cell? ⟨Q, 0, none⟩ = some (.string m1) ∧ W.cell? ⟨Q, 1, none⟩ = some (.string m2) :=
  ⟨by rw [cell_at h.h1]; rfl, by rw [cell_at h.h1]; rfl, by rw [cell_at h.h2]; rfl, by rw [cell_at h.h2]; rfl⟩
set_option maxHeartbeats 8000000 in
set_option maxRecDepth 100000 in
theorem main3 (v : Value) (ls : List Layer) (d : ByteArray) (w : World) (hv : ReadsL w.heap.size v ls w) :
    Calls Try.prog 3 #[v, .string d] w fun e w' => e = .returned (.bool true) ∧ Below w.heap.size w w' := by
  have C5 := hide (bytes5 v ls d w hv)
  have C6 := hide (size_any v ls d w hv)
  have C7 := hide (clean_any d w)
  have C8 := hide (fun h => allClean_any v ls w hv h)
  have C9 := hide (fun h1 h2 => build_any v ls w hv h1 h2)
  have HV := hide hv
  obtain ⟨a, n, cap, rfl, hn, hl⟩ := hv.at'
  have HL := hide hl
  clear hl hv
  go_enter Try.func3, Try.ntmps3
  go_upto_region 5 with (first
    | (go_at_call 5; refine C5.out.mono ?_; rintro e w' ⟨b, rfl, rfl⟩; cases b)
    | (go_at_call 6; refine C6.out.mono ?_; rintro e w' ⟨rfl, rfl | ⟨rfl, hsz⟩⟩))
  · go_ret
    exact ⟨rfl, Below.refl _ _⟩
  · go_ret
    exact ⟨rfl, Below.refl _ _⟩
  · obtain ⟨hd, hs, ho⟩ := hsz
    have HO := hide ho
    have HS := hide hs
    have HD := hide hd
    rw [HL.out.len] at hs
    replace C7 := hide (C7.out hd)
    replace C8 := hide (C8.out ho)
    replace C9 := hide (C9.out HS.out ho)
    clear ho
    go_upto_region 7 with (first
      | (go_at_call 7; refine C7.out.mono ?_; rintro e w' ⟨b, rfl, hcl, rfl⟩; replace hcl := hide hcl; cases b)
      | (go_at_call 8; refine C8.out.mono ?_; rintro e w' ⟨b, rfl, rfl⟩; cases b))
    · go_ret
      exact ⟨rfl, Below.refl _ _⟩
    · go_ret
      exact ⟨rfl, Below.refl _ _⟩
    · have HNS := hide (hcl.out trivial)
      clear hcl
      go_upto_region 8 with (
        go_at_call 9
        refine C9.out.mono ?_
        rintro e w1 ⟨v1, rfl, hR, hb1⟩
        obtain ⟨a1, hv1, hR1⟩ := id hR
        rw [HL.out.len] at hv1
        subst hv1)
      have HR := hide hR
      have HB1 := hide hb1
      clear hR hR1 hb1
      obtain ⟨wb, HWB⟩ : ∃ wb, Hid (w1.alloc (.cells #[.slice a1 n n] 30) = wb) := ⟨_, rfl⟩
      have HBb : Hid (Below w1.heap.size w1 wb) := by rw [← HWB.out]; exact (Below.refl _ w1).alloc (Nat.le_refl _) _
      have C10 : Hid (Calls Try.prog 10 #[.pointer (some ⟨w1.heap.size, 0, none⟩), .string d] wb fun e w' => ZPost ls d wb e w') := by
        have hc : wb.heap[w1.heap.size]? = some (.cells #[.slice a1 n n] 30 (0, 0)) := by rw [← HWB.out]; exact block_new w1 _
        exact hide (zz_any w1.heap.size (.slice a1 n n) ls d wb (lt_of_block hc) (by rw [cell_at hc]; rfl) ((HR.out.below HBb.out).up HBb.out.size) HS.out HO.out hd)
      rw [HWB.out]
      go_upto_region 9 with (
        go_at_call 10
        refine C10.out.mono ?_
        rintro e w2 ⟨x1, u1, er1, ti1, s1, s2, m1, m2, rfl, hz1, hb2⟩)
      have HZ := hide hz1
      obtain ⟨w3, HW3⟩ : ∃ w3, Hid ((w2.alloc (.cells #[.int .i64 x1, .string u1] 32)).alloc (.cells #[.string m1, .string m2] 33) = w3) := ⟨_, rfl⟩
      have HB23 : Hid (Below w2.heap.size w2 w3) := by rw [← HW3.out]; exact ((Below.refl _ w2).alloc (Nat.le_refl _) _).alloc (by simp) _
      have HPN : Hid (PN w2.heap.size (w2.heap.size + 1) x1 u1 m1 m2 w3) := by
        rw [← HW3.out]
        refine hide ⟨?_, block_new' (by simp)⟩
        rw [Below.heap_alloc _ _ _ (by simp)]
        exact block_new w2 _
      have HBF : Hid (Below w.heap.size w w3) := by
        have h1 := HBb.out.trans (Below.mono hb2 HBb.out.size)
        have h2 := h1.trans (Below.mono HB23.out h1.size)
        exact hide (HB1.out.trans (Below.mono h2 HB1.out.size))
      clear hz1 hb2
      rw [HW3.out]
      have C11 := hide (model_any _ ls d w3 ((HV.out.below HBF.out).up HBF.out.size) HO.out HD.out HNS.out)
      go_upto_region 10 with (
        go_at_call 11
        refine C11.out.mono ?_
        rintro e w4 hm
        obtain ⟨rfl, x2, u2, ti2, p2, i1, i2, rfl, hm2⟩ := hm.shapes
        clear hm)
      have HM := hide hm2
      clear hm2
      obtain ⟨c0, c1, c2, c3⟩ := HPN.out.cells
      have HL3 := hide (HL.out.below HBF.out)
      rcases HZ.out with ⟨z1, rfl, rfl, rfl, rfl⟩ | ⟨f, q, z1, z2, rfl, rfl, rfl, rfl⟩ | ⟨f, t, q, lf, lt, z1, z2, z3, z4, rfl, rfl, rfl, rfl, rfl, rfl, rfl, rfl⟩
      · rcases HM.out with ⟨y1, rfl, rfl, rfl⟩ | ⟨b, bt, f2, s3, y1, y2, y3, y4, rfl, rfl, rfl⟩ | ⟨b, bt, f2, s3, y1, y2, y3, y4, rfl, rfl, rfl, rfl⟩
        · clear y1 z1
          go_wp2_with fail
          go_ret
          exact ⟨rfl, HBF.out⟩
        · exact (walk_none (nn_of z1) y1 y2 y3).elim
        · exact (walk_none (nn_of z1) y1 y2 y3).elim
      · rcases HM.out with ⟨y1, rfl, rfl, rfl⟩ | ⟨b, bt, f2, s3, y1, y2, y3, y4, rfl, rfl, rfl⟩ | ⟨b, bt, f2, s3, y1, y2, y3, y4, rfl, rfl, rfl, rfl⟩
        · exact (found_not_nn z1 y1).elim
        · obtain ⟨e1, e2, e3, e4, e5⟩ := walk_same HO.out z1 y1 y2 y3
          subst e1
          rw [e2] at c1
          obtain ⟨u, HU⟩ : ∃ u : ByteArray, Hid ((⟨(Un b.data.toList d.data.toList).toArray⟩ : ByteArray) = u) := ⟨_, rfl⟩
          rw [HU.out] at c1 ⊢
          clear z1 z2 y1 y2 y3 y4 e2 e3 e4 e5
          go_wp2_with fail
          go_ret
          exact ⟨rfl, HBF.out⟩
        · have e4 := (walk_same HO.out z1 y1 y2 y3).2.2.2.1 z2
          omega
      · rcases HM.out with ⟨y1, rfl, rfl, rfl⟩ | ⟨b, bt, f2, s3, y1, y2, y3, y4, rfl, rfl, rfl⟩ | ⟨b, bt, f2, s3, y1, y2, y3, y4, rfl, rfl, rfl, rfl⟩
        · exact (found_not_nn z1 y1).elim
        · have e4 := (walk_same HO.out z1 y1 y2 y3).2.2.2.2 t z2
          omega
        · obtain ⟨e1, e2, e3, e4, e5⟩ := walk_same HO.out z1 y1 y2 y3
          subst e1
          obtain rfl := e5 t z2
          obtain rfl : q.base = b := str_eq e2
          subst e3
          have hfn : f < n := by rw [← HL.out.len]; exact lt_some z3
          have htn : t < n := by rw [← HL.out.len]; exact lt_some z4
          clear z1 z2 y1 y2 y3 y4 e2 e4 e5
          obtain ⟨g, o, a', n', cap', nm, ps, iso, rfl, hg, he, k1, k2, k3, hn', hp, hrp⟩ := HL3.out.cell f hfn
          rw [z3] at he
          cases he
          clear k2 k3 hp hrp hn'
          obtain ⟨g', o', a', n', cap', nm', ps', iso', hgo, hg', he', k1', k2', k3', hn', hp, hrp⟩ := HL3.out.cell t htn
          cases hgo
          rw [z4] at he'
          cases he'
          clear k2' k3' hp hrp hn' z3 z4
          obtain ⟨sp, HSP⟩ : ∃ sp, Hid (spellB q.base q.tree = sp) := ⟨_, rfl⟩
          rw [HSP.out]
          dsimp only at c2 c3
          have hfi : (f : Int) < (n : Int) := by omega
          have hti : (t : Int) < (n : Int) := by omega
          go_wp2_with fail
          go_quiet (fail)
          go_wp2_with fail
          go_ret
          exact ⟨rfl, HBF.out.trans (drewNB _ _ _)⟩
end Go.Proofs.Qxb6616084a
