/-
  'ZZPlaceOf'.
-/
import Derived.Test.Qxb6616084aPlace
import Derived.BigRegion
namespace Go.Proofs.Qxb6616084a
set_option linter.unusedVariables false
open Go.RowKit
/-- What 'ZZPlaceOf' tells. -/
def ZFacts (ls : List Layer) (d : ByteArray) (x : Int) (u : ByteArray) (er ti : Bool) (s1 s2 m1 m2 : ByteArray) : Prop :=
  (NoneTo ls d.data.toList ls.length ∧ x = -1 ∧ u = ⟨#[]⟩ ∧ er = false ∧ ti = false) ∨
  (∃ (f : Nat) (q : Pat), FoundAt ls d.data.toList ls.length f q ∧ LoneTo ls d.data.toList ls.length f q ∧ x = f ∧ u = ⟨(Un q.base.data.toList d.data.toList).toArray⟩ ∧ er = false ∧ ti = false) ∨
  (∃ (f t : Nat) (q : Pat) (lf lt : Layer), FoundAt ls d.data.toList ls.length f q ∧ TiedAt ls d.data.toList ls.length f t q ∧ ls[f]? = some lf ∧ ls[t]? = some lt ∧ x = -1 ∧ u = ⟨#[]⟩ ∧ er = true ∧ ti = true ∧ s1 = d ∧ s2 = spellB q.base q.tree ∧ m1 = lf.name ∧ m2 = lt.name)
def ZPost (ls : List Layer) (d : ByteArray) (w : World) (e : Ending) (w' : World) : Prop :=
  ∃ x u er ti s1 s2 m1 m2, e = .returned (.tuple #[.agg #[.int .i64 x, .string u], .bool er, .bool ti, .string s1, .string s2, .agg #[.string m1, .string m2]]) ∧ ZFacts ls d x u er ti s1 s2 m1 m2 ∧ Below w.heap.size w w'
theorem assert_tie (a : Addr) (w : World) : (Instr.typeAssert (.iface 58 (.pointer (some a))) 55 58 true).run Try.prog w = .ok (.tuple #[.pointer (some a), .bool true]) w := by kernel_rfl
theorem assert_nil (w : World) : (Instr.typeAssert .nilIface 55 58 true).run Try.prog w = .ok (.tuple #[.pointer none, .bool false]) w := by kernel_rfl
/-- The two results' blocks. -/
structure ZW (N : Nat) (W : World) : Prop where
  h4 : W.heap[N]? = some (.cells #[.int .i64 0, .string ⟨#[]⟩] 32 (0, 0))
  h9 : W.heap[N + 1]? = some (.cells #[.string ⟨#[]⟩, .string ⟨#[]⟩] 33 (0, 0))
theorem ZW.below {N : Nat} {W W' : World} (h : ZW N W) (hb : Below W.heap.size W W') : ZW N W' :=
  ⟨by rw [hb.block _ (lt_of_block h.h4)]; exact h.h4, by rw [hb.block _ (lt_of_block h.h9)]; exact h.h9⟩
theorem PlacePost.shapes {ls : List Layer} {d : ByteArray} {w : World} {e : Ending} {w' : World} (h : PlacePost ls d w e w') : Below w.heap.size w w' ∧
    ((∃ x u, e = .returned (.tuple #[.agg #[.int .i64 x, .string u], .nilIface]) ∧ ZFacts ls d x u false false ⟨#[]⟩ ⟨#[]⟩ ⟨#[]⟩ ⟨#[]⟩) ∨
     (∃ B sp m1 m2, e = .returned (.tuple #[.agg #[.int .i64 (-1), .string ⟨#[]⟩], .iface 58 (.pointer (some ⟨B, 0, none⟩))]) ∧ ZFacts ls d (-1) ⟨#[]⟩ true true d sp m1 m2 ∧ w'.heap[B]? = some (.cells #[.string d, .string sp, .string m1, .string m2] 61 (0, 0)))) := by
  obtain ⟨hb, ⟨h1, h2⟩ | ⟨f, q, h1, h2, h3⟩ | ⟨f, t, q, lf, lt, B, h1, h2, h3, h4, h5, h6⟩⟩ := h
  · exact ⟨hb, .inl ⟨_, _, h2, .inl ⟨h1, rfl, rfl, rfl, rfl⟩⟩⟩
  · exact ⟨hb, .inl ⟨_, _, h3, .inr (.inl ⟨f, q, h1, h2, rfl, rfl, rfl, rfl⟩)⟩⟩
  · exact ⟨hb, .inr ⟨B, _, _, _, h5, .inr (.inr ⟨f, t, q, lf, lt, h1, h2, h3, h4, rfl, rfl, rfl, rfl, rfl, rfl, rfl, rfl⟩), h6⟩⟩
/-- The results' blocks and the place's. -/
structure ZP (N P : Nat) (x : Int) (u : ByteArray) (W : World) : Prop where
  z : ZW N W
  p : W.heap[P]? = some (.cells #[.int .i64 x, .string u] 32 (0, 0))
theorem ZP.cells {N P : Nat} {x : Int} {u : ByteArray} {W : World} (h : ZP N P x u W) :
    W.cell? ⟨P, 0, none⟩ = some (.int .i64 x) ∧ W.cell? ⟨P, 1, none⟩ = some (.string u) ∧ W.cell? ⟨N, 0, none⟩ = some (.int .i64 0) ∧ W.cell? ⟨N, 1, none⟩ = some (.string ⟨#[]⟩) ∧ W.cell? ⟨N + 1, 0, none⟩ = some (.string ⟨#[]⟩) ∧ W.cell? ⟨N + 1, 1, none⟩ = some (.string ⟨#[]⟩) ∧
    W.frozen? ⟨N, 0, none⟩ = false ∧ W.frozen? ⟨N, 1, none⟩ = false ∧ W.frozen? ⟨N + 1, 0, none⟩ = false ∧ W.frozen? ⟨N + 1, 1, none⟩ = false :=
  ⟨by rw [cell_at h.p]; rfl, by rw [cell_at h.p]; rfl, by rw [cell_at h.z.h4]; rfl, by rw [cell_at h.z.h4]; rfl, by rw [cell_at h.z.h9]; rfl, by rw [cell_at h.z.h9]; rfl, frozen_at h.z.h4 0, frozen_at h.z.h4 1, frozen_at h.z.h9 0, frozen_at h.z.h9 1⟩
def zset (W : World) (N : Nat) (x : Int) (u a b : ByteArray) : World :=
  ((((W.setCell ⟨N, 0, none⟩ (.int .i64 x)).setCell ⟨N, 1, none⟩ (.string u)).setCell ⟨N + 1, 0, none⟩ (.string a)).setCell ⟨N + 1, 1, none⟩ (.string b)).drew
theorem ZW.fin {w W : World} (h : ZW w.heap.size W) (hb : Below w.heap.size w W) (x : Int) (u a b : ByteArray) :
    (zset W w.heap.size x u a b).cell? ⟨w.heap.size, 0, none⟩ = some (.int .i64 x) ∧ (zset W w.heap.size x u a b).cell? ⟨w.heap.size, 1, none⟩ = some (.string u) ∧
    (zset W w.heap.size x u a b).cell? ⟨w.heap.size + 1, 0, none⟩ = some (.string a) ∧ (zset W w.heap.size x u a b).cell? ⟨w.heap.size + 1, 1, none⟩ = some (.string b) ∧ Below w.heap.size w (zset W w.heap.size x u a b) := by
  have h4 := heap_set (heap_set h.h4 0 (.int .i64 x)) 1 (.string u)
  have h9 : ((W.setCell ⟨w.heap.size, 0, none⟩ (.int .i64 x)).setCell ⟨w.heap.size, 1, none⟩ (.string u)).heap[w.heap.size + 1]? = some (.cells #[.string ⟨#[]⟩, .string ⟨#[]⟩] 33 (0, 0)) := by
    rw [Below.heap_setCell _ _ _ _ (by show w.heap.size + 1 ≠ w.heap.size; omega), Below.heap_setCell _ _ _ _ (by show w.heap.size + 1 ≠ w.heap.size; omega)]
    exact h.h9
  have hb' := (hb.setCell (p := ⟨w.heap.size, 0, none⟩) (Nat.le_refl _) (.int .i64 x)).setCell (p := ⟨w.heap.size, 1, none⟩) (Nat.le_refl _) (.string u)
  unfold zset
  generalize (W.setCell ⟨w.heap.size, 0, none⟩ (.int .i64 x)).setCell ⟨w.heap.size, 1, none⟩ (.string u) = V at *
  have k9 := heap_set (heap_set h9 0 (.string a)) 1 (.string b)
  have k4 : ((V.setCell ⟨w.heap.size + 1, 0, none⟩ (.string a)).setCell ⟨w.heap.size + 1, 1, none⟩ (.string b)).heap[w.heap.size]? = V.heap[w.heap.size]? := by
    rw [Below.heap_setCell _ _ _ _ (by show w.heap.size ≠ w.heap.size + 1; omega), Below.heap_setCell _ _ _ _ (by show w.heap.size ≠ w.heap.size + 1; omega)]
  rw [h4] at k4
  have hb2 := (hb'.setCell (p := ⟨w.heap.size + 1, 0, none⟩) (by show w.heap.size ≤ w.heap.size + 1; omega) (.string a)).setCell (p := ⟨w.heap.size + 1, 1, none⟩) (by show w.heap.size ≤ w.heap.size + 1; omega) (.string b)
  generalize (V.setCell ⟨w.heap.size + 1, 0, none⟩ (.string a)).setCell ⟨w.heap.size + 1, 1, none⟩ (.string b) = X at *
  have m4 : X.drew.heap[w.heap.size]? = X.heap[w.heap.size]? := rfl
  have m9 : X.drew.heap[w.heap.size + 1]? = X.heap[w.heap.size + 1]? := rfl
  rw [k4] at m4
  rw [k9] at m9
  exact ⟨by rw [cell_at m4]; rfl, by rw [cell_at m4]; rfl, by rw [cell_at m9]; rfl, by rw [cell_at m9]; rfl, hb2.trans (drewB _ _)⟩
set_option maxHeartbeats 8000000 in
set_option maxRecDepth 100000 in
theorem zz_any (gr : Nat) (v : Value) (ls : List Layer) (d : ByteArray) (w : World) (hgr : gr < w.heap.size) (hc : w.cell? ⟨gr, 0, none⟩ = some v) (hv : ReadsR w.heap.size v ls w) (hs : ls.length ≤ 1048576) (ho : ∀ l ∈ ls, OkLayer l) (hd : d.size ≤ 1048576) :
    Calls Try.prog 10 #[.pointer (some ⟨gr, 0, none⟩), .string d] w fun e w' => ZPost ls d w e w' := by
  obtain ⟨w1, HW1⟩ : ∃ w1, Hid ((w.alloc (.cells #[.int .i64 0, .string ⟨#[]⟩] 32)).alloc (.cells #[.string ⟨#[]⟩, .string ⟨#[]⟩] 33) = w1) := ⟨_, rfl⟩
  have HB1 : Hid (Below w.heap.size w w1) := by rw [← HW1.out]; exact ((Below.refl _ w).alloc (Nat.le_refl _) _).alloc (by simp) _
  have HT1 : Hid (ZW w.heap.size w1) := by
    rw [← HW1.out]
    constructor
    · rw [Below.heap_alloc _ _ _ (by simp)]
      exact block_new' (by simp)
    · exact block_new' (by simp)
  have CP : Hid (Calls Try.prog 16 #[.pointer (some ⟨gr, 0, none⟩), .string d] w1 fun e w' => PlacePost ls d w1 e w') :=
    hide (place_any gr v ls d w1 (Nat.lt_of_lt_of_le hgr HB1.out.size) (by rw [HB1.out.cell (p := ⟨gr, 0, none⟩) hgr]; exact hc) ((hv.below HB1.out).up HB1.out.size) hs ho hd)
  clear hc hv hs ho hd hgr
  have AT := hide assert_tie
  have AN := assert_nil
  go_enter Try.func10, Try.ntmps10
  go_upto_region 1 with fail
  rw [HW1.out]
  go_upto_region 2 with (
    go_at_call 16
    refine CP.out.mono ?_
    rintro e w2 hpost
    obtain ⟨hb2, ⟨x, u, rfl, hf⟩ | ⟨B, sp, m1, m2, rfl, hf, hB⟩⟩ := hpost.shapes)
  · have HF := hide hf
    obtain ⟨wp, HWP⟩ : ∃ wp, Hid (w2.alloc (.cells #[.int .i64 x, .string u] 32) = wp) := ⟨_, rfl⟩
    have HBP : Hid (Below w1.heap.size w1 wp) := by rw [← HWP.out]; exact hide (hb2.alloc hb2.size _)
    have HZ : Hid (ZP w.heap.size w2.heap.size x u wp) := hide ⟨HT1.out.below HBP.out, by rw [← HWP.out]; exact block_new _ _⟩
    have HB := hide (HB1.out.trans (Below.mono HBP.out HB1.out.size))
    rw [HWP.out]
    clear hf hb2
    obtain ⟨r0, r1, r2, r3, r4, r5, r6, r7, r8, r9⟩ := HZ.out.cells
    go_wp2_with fail
    go_region
    go_wp2_with fail
    have FIN := HZ.out.z.fin HB.out x u ⟨#[]⟩ ⟨#[]⟩
    unfold zset at FIN
    obtain ⟨k0, k1, k2, k3, k4⟩ := FIN
    refine bodyPost_ret (v := .tuple #[.agg #[.int .i64 x, .string u], .bool false, .bool false, .string ⟨#[]⟩, .string ⟨#[]⟩, .agg #[.string ⟨#[]⟩, .string ⟨#[]⟩]]) (by simp [results, Try.results10, go_sem, k0, k1, k2, k3]) rfl ?_
    exact ⟨x, u, false, false, _, _, _, _, rfl, HF.out, k4⟩
  · have HF := hide hf
    obtain ⟨wp, HWP⟩ : ∃ wp, Hid (w2.alloc (.cells #[.int .i64 (-1), .string ⟨#[]⟩] 32) = wp) := ⟨_, rfl⟩
    have HBP : Hid (Below w1.heap.size w1 wp) := by rw [← HWP.out]; exact hide (hb2.alloc hb2.size _)
    have HZ : Hid (ZP w.heap.size w2.heap.size (-1) ⟨#[]⟩ wp) := hide ⟨HT1.out.below HBP.out, by rw [← HWP.out]; exact block_new _ _⟩
    have HB := hide (HB1.out.trans (Below.mono HBP.out HB1.out.size))
    have hB' : wp.heap[B]? = some (.cells #[.string d, .string sp, .string m1, .string m2] 61 (0, 0)) := by rw [← HWP.out, Below.heap_alloc _ _ _ (lt_of_block hB)]; exact hB
    have t0 : wp.cell? ⟨B, 0, none⟩ = some (.string d) := by rw [cell_at hB']; rfl
    have t1 : wp.cell? ⟨B, 1, none⟩ = some (.string sp) := by rw [cell_at hB']; rfl
    have t2 : wp.cell? ⟨B, 2, none⟩ = some (.string m1) := by rw [cell_at hB']; rfl
    have t3 : wp.cell? ⟨B, 3, none⟩ = some (.string m2) := by rw [cell_at hB']; rfl
    have AT' := AT.out ⟨B, 0, none⟩
    have hBN : B ≠ w.heap.size := fun e => by rw [e, HZ.out.z.h4] at hB'; simp at hB'
    have hV : ((wp.setCell ⟨w.heap.size, 0, none⟩ (.int .i64 (-1))).setCell ⟨w.heap.size, 1, none⟩ (.string ⟨#[]⟩)).heap[B]? = some (.cells #[.string d, .string sp, .string m1, .string m2] 61 (0, 0)) := by
      rw [Below.heap_setCell _ _ _ _ hBN, Below.heap_setCell _ _ _ _ hBN]
      exact hB'
    have u0 : ((wp.setCell ⟨w.heap.size, 0, none⟩ (.int .i64 (-1))).setCell ⟨w.heap.size, 1, none⟩ (.string ⟨#[]⟩)).cell? ⟨B, 0, none⟩ = some (.string d) := by rw [cell_at hV]; rfl
    have u1 : ((wp.setCell ⟨w.heap.size, 0, none⟩ (.int .i64 (-1))).setCell ⟨w.heap.size, 1, none⟩ (.string ⟨#[]⟩)).cell? ⟨B, 1, none⟩ = some (.string sp) := by rw [cell_at hV]; rfl
    have u2 : ((wp.setCell ⟨w.heap.size, 0, none⟩ (.int .i64 (-1))).setCell ⟨w.heap.size, 1, none⟩ (.string ⟨#[]⟩)).cell? ⟨B, 2, none⟩ = some (.string m1) := by rw [cell_at hV]; rfl
    have u3 : ((wp.setCell ⟨w.heap.size, 0, none⟩ (.int .i64 (-1))).setCell ⟨w.heap.size, 1, none⟩ (.string ⟨#[]⟩)).cell? ⟨B, 3, none⟩ = some (.string m2) := by rw [cell_at hV]; rfl
    clear hV hBN
    rw [HWP.out]
    clear hf hb2 hB hB'
    obtain ⟨r0, r1, r2, r3, r4, r5, r6, r7, r8, r9⟩ := HZ.out.cells
    go_wp2_with fail
    go_region
    go_wp2_with fail
    have FIN := HZ.out.z.fin HB.out (-1) ⟨#[]⟩ m1 m2
    unfold zset at FIN
    obtain ⟨k0, k1, k2, k3, k4⟩ := FIN
    refine bodyPost_ret (v := .tuple #[.agg #[.int .i64 (-1), .string ⟨#[]⟩], .bool true, .bool true, .string d, .string sp, .agg #[.string m1, .string m2]]) (by simp [results, Try.results10, go_sem, k0, k1, k2, k3]) rfl ?_
    exact ⟨_, _, true, true, _, _, _, _, rfl, HF.out, k4⟩
end Go.Proofs.Qxb6616084a
