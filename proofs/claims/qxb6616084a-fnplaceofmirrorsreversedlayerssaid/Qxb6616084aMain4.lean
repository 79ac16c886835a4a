/-
  'FnPlaceOfMirrorsReversedLayers'.
-/
import Derived.Test.Qxb6616084aZz
import Derived.Test.Qxb6616084aPlain
import Derived.Test.Qxb6616084aBuild
namespace Go.Proofs.Qxb6616084a
set_option linter.unusedVariables false
open Go.RowKit
/-- The first j layers of ls stand in the row of block G; their patterns lie below. -/
def RevTo (G n : Nat) (ls : List Layer) (j : Nat) (w : World) : Prop :=
  ∃ cur, w.heap[G]? = some (.cells cur 46 (0, 0)) ∧ cur.size = n * 6 ∧ ∀ k l, k < j → ls[k]? = some l → ∃ pv, LCell cur k l pv ∧ ReadsP G pv l.pats w
theorem RevTo.start {w : World} {M : Array Value} {n : Nat} (hM : M.size = n * 6) (ls : List Layer) : RevTo w.heap.size n ls 0 (w.alloc (.cells M 46)) :=
  ⟨M, block_new w _, hM, fun k q hk => by omega⟩
theorem RevTo.cell {G n i k : Nat} {ls : List Layer} {w : World} (h : RevTo G n ls i w) (hk : k < n) (c : Nat) (hc : c < 6) : (∃ v, w.cell? ⟨G, k * 6 + c, none⟩ = some v) ∧ w.frozen? ⟨G, k * 6 + c, none⟩ = false := by
  obtain ⟨cur, h1, h2, h3⟩ := h
  exact ⟨⟨_, by rw [cell_at h1]; exact Array.getElem?_eq_getElem (by omega)⟩, frozen_at h1 _⟩
theorem RevTo.set {G n i : Nat} {ls : List Layer} {w : World} (h : RevTo G n ls i w) (hi : i < n) {l : Layer} (hl : ls[i]? = some l) {pv : Value} (hp : ReadsP G pv l.pats w) :
    RevTo G n ls (i + 1) (set6 w G (i * 6) l pv) := by
  obtain ⟨cur, h1, h2, h3⟩ := h
  have hb : Below G w (set6 w G (i * 6) l pv) := set6_below (Below.refl G w) (Nat.le_refl _) _ _ _
  refine ⟨_, set6_heap h1 _ _ _, by simp [h2], fun k l' hk hl' => ?_⟩
  by_cases e : k < i
  · obtain ⟨pv', ⟨a1, a2, a3, a4, a5, a6⟩, b1⟩ := h3 k l' e hl'
    refine ⟨pv', ⟨?_, ?_, ?_, ?_, ?_, ?_⟩, b1.below hb⟩
    all_goals (rw [Array.getElem?_setIfInBounds_ne (by omega), Array.getElem?_setIfInBounds_ne (by omega), Array.getElem?_setIfInBounds_ne (by omega), Array.getElem?_setIfInBounds_ne (by omega), Array.getElem?_setIfInBounds_ne (by omega), Array.getElem?_setIfInBounds_ne (by omega)]; assumption)
  · obtain rfl : k = i := by omega
    rw [hl] at hl'
    cases hl'
    refine ⟨pv, ⟨?_, ?_, ?_, ?_, ?_, ?_⟩, hp.below hb⟩
    · rw [Array.getElem?_setIfInBounds_ne (by omega), Array.getElem?_setIfInBounds_ne (by omega), Array.getElem?_setIfInBounds_ne (by omega), Array.getElem?_setIfInBounds_ne (by omega), Array.getElem?_setIfInBounds_ne (by omega), Array.getElem?_setIfInBounds_self_of_lt (by omega)]
    · rw [Array.getElem?_setIfInBounds_ne (by omega), Array.getElem?_setIfInBounds_ne (by omega), Array.getElem?_setIfInBounds_ne (by omega), Array.getElem?_setIfInBounds_ne (by omega), Array.getElem?_setIfInBounds_self_of_lt (by simp; omega)]
    · rw [Array.getElem?_setIfInBounds_ne (by omega), Array.getElem?_setIfInBounds_ne (by omega), Array.getElem?_setIfInBounds_ne (by omega), Array.getElem?_setIfInBounds_self_of_lt (by simp; omega)]
    · rw [Array.getElem?_setIfInBounds_ne (by omega), Array.getElem?_setIfInBounds_ne (by omega), Array.getElem?_setIfInBounds_self_of_lt (by simp; omega)]
    · rw [Array.getElem?_setIfInBounds_ne (by omega), Array.getElem?_setIfInBounds_self_of_lt (by simp; omega)]
    · rw [Array.getElem?_setIfInBounds_self_of_lt (by simp; omega)]
theorem RevTo.reads {G n : Nat} {ls : List Layer} {w : World} (h : RevTo G n ls n w) (hl : ls.length = n) : ReadsR w.heap.size (.slice (some ⟨G, 0, none⟩) n n) ls w := by
  obtain ⟨cur, h1, h2, h3⟩ := h
  have hG := lt_of_block h1
  refine ⟨_, by rw [hl], fun i l hi => ?_⟩
  obtain ⟨pv, ⟨a1, a2, a3, a4, a5, a6⟩, b1⟩ := h3 i l (by have := (List.getElem?_eq_some_iff.1 hi).1; omega) hi
  exact ⟨G, 0, pv, rfl, hG, by rw [Nat.zero_add, cell_at h1]; exact a1, by rw [Nat.zero_add, cell_at h1]; exact a2, by rw [Nat.zero_add, cell_at h1]; exact a3, by rw [Nat.zero_add, cell_at h1]; exact a4, by rw [Nat.zero_add, cell_at h1]; exact a5, by rw [Nat.zero_add, cell_at h1]; exact a6, b1.up (Nat.le_of_lt hG)⟩
/-- The two places' blocks. -/
structure PP (P1 P2 : Nat) (x1 x2 : Int) (u1 u2 : ByteArray) (W : World) : Prop where
  h1 : W.heap[P1]? = some (.cells #[.int .i64 x1, .string u1] 32 (0, 0))
  h2 : W.heap[P2]? = some (.cells #[.int .i64 x2, .string u2] 32 (0, 0))
theorem PP.cells {P1 P2 : Nat} {x1 x2 : Int} {u1 u2 : ByteArray} {W : World} (h : PP P1 P2 x1 x2 u1 u2 W) :
    W.cell? ⟨P1, 0, none⟩ = some (.int .i64 x1) ∧ W.cell? ⟨P1, 1, none⟩ = some (.string u1) ∧ W.cell? ⟨P2, 0, none⟩ = some (.int .i64 x2) ∧ W.cell? ⟨P2, 1, none⟩ = some (.string u2) :=
  ⟨by rw [cell_at h.h1]; rfl, by rw [cell_at h.h1]; rfl, by rw [cell_at h.h2]; rfl, by rw [cell_at h.h2]; rfl⟩
theorem PP.below {P1 P2 : Nat} {x1 x2 : Int} {u1 u2 : ByteArray} {W W' : World} (h : PP P1 P2 x1 x2 u1 u2 W) (hb : Below W.heap.size W W') : PP P1 P2 x1 x2 u1 u2 W' :=
  ⟨by rw [hb.block _ (lt_of_block h.h1)]; exact h.h1, by rw [hb.block _ (lt_of_block h.h2)]; exact h.h2⟩
def NamesAt (ls : List Layer) (d : List UInt8) (k : Nat) : Prop := ∃ l, ls[k]? = some l ∧ NamesP l.pats d
/-- How many of the first i layers name d: enough of them. -/
def Cnt (ls : List Layer) (d : List UInt8) (i c : Nat) : Prop := c ≤ i ∧ (∀ k, k < i → NamesAt ls d k → 1 ≤ c) ∧ ∀ k1 k2, k1 < k2 → k2 < i → NamesAt ls d k1 → NamesAt ls d k2 → 2 ≤ c
theorem Cnt.start (ls : List Layer) (d : List UInt8) : Cnt ls d 0 0 := ⟨Nat.le_refl _, fun k hk => by omega, fun k1 k2 _ hk => by omega⟩
theorem Cnt.yes {ls : List Layer} {d : List UInt8} {i c : Nat} (h : Cnt ls d i c) : Cnt ls d (i + 1) (c + 1) := by
  refine ⟨by have := h.1; omega, fun k hk hn => by omega, fun k1 k2 h1 h2 n1 n2 => ?_⟩
  have := h.2.1 k1 (by omega) n1
  omega
theorem Cnt.no {ls : List Layer} {d : List UInt8} {i c : Nat} (h : Cnt ls d i c) (hn : ¬ NamesAt ls d i) : Cnt ls d (i + 1) c := by
  refine ⟨by have := h.1; omega, fun k hk hk' => ?_, fun k1 k2 h1 h2 n1 n2 => ?_⟩
  · by_cases e : k < i
    · exact h.2.1 k e hk'
    · obtain rfl : k = i := by omega
      exact absurd hk' hn
  · by_cases e : k2 < i
    · exact h.2.2 k1 k2 h1 e n1 n2
    · obtain rfl : k2 = i := by omega
      exact absurd n2 hn
set_option maxHeartbeats 8000000 in
set_option maxRecDepth 100000 in
theorem main4 (v : Value) (ls : List Layer) (d : ByteArray) (w : World) (hv : ReadsL w.heap.size v ls w) :
    Calls Try.prog 4 #[v, .string d] w fun e w' => e = .returned (.bool true) ∧ Below w.heap.size w w' := by
  have C12 := hide (bytes12 v ls d w hv)
  have C6 := hide (size_any v ls d w hv)
  have C7 := hide (clean_any d w)
  have C8 := hide (fun h => allClean_any v ls w hv h)
  have C9 := hide (fun h1 h2 => build_any v ls w hv h1 h2)
  obtain ⟨a, n, cap, rfl, hn, hl⟩ := hv.at'
  have HL := hide hl
  clear hl hv
  go_enter Try.func4, Try.ntmps4
  go_upto_region 5 with (first
    | (go_at_call 12; refine C12.out.mono ?_; rintro e w' ⟨b, rfl, rfl⟩; cases b)
    | (go_at_call 6; refine C6.out.mono ?_; rintro e w' ⟨rfl, rfl | ⟨rfl, hsz⟩⟩))
  · go_ret
    exact ⟨rfl, Below.refl _ _⟩
  · go_ret
    exact ⟨rfl, Below.refl _ _⟩
  · obtain ⟨hd, hs, ho⟩ := hsz
    have HO := hide ho
    have HS := hide hs
    rw [HL.out.len] at hs
    replace C7 := hide (C7.out hd)
    replace C8 := hide (C8.out ho)
    replace C9 := hide (C9.out HS.out ho)
    clear ho
    go_upto_region 7 with (first
      | (go_at_call 7; refine C7.out.mono ?_; rintro e w' ⟨b, rfl, hcl, rfl⟩; clear hcl; cases b)
      | (go_at_call 8; refine C8.out.mono ?_; rintro e w' ⟨b, rfl, rfl⟩; cases b))
    · go_ret
      exact ⟨rfl, Below.refl _ _⟩
    · go_ret
      exact ⟨rfl, Below.refl _ _⟩
    · obtain ⟨M, hM, hmk⟩ := made46 n hs
      go_upto_region 8 with (
        go_at_call 9
        refine C9.out.mono ?_
        rintro e w1 ⟨v1, rfl, hR, hb1⟩
        obtain ⟨a1, hv1, hR1⟩ := id hR
        rw [HL.out.len] at hv1
        subst hv1)
      have HR := hide hR
      have HR1 := hide hR1
      have HB1 := hide hb1
      clear hR hR1 hb1
      obtain ⟨wm, HWM⟩ : ∃ wm, Hid (w1.alloc (.cells M 46) = wm) := ⟨_, rfl⟩
      have HBM : Hid (Below w1.heap.size w1 wm) := by rw [← HWM.out]; exact (Below.refl _ w1).alloc (Nat.le_refl _) _
      have HRM : Hid (RevTo w1.heap.size n ls.reverse 0 wm) := by rw [← HWM.out]; exact RevTo.start hM _
      go_wp2_with fail
      rw [HWM.out]
      go_loopw [8] (fun s8 wr => ∃ j : Nat, s8 = .int .i64 j ∧ j ≤ n ∧ Hid (RevTo w1.heap.size n ls.reverse j wr) ∧ Hid (Below w1.heap.size w1 wr)) (fun s8 _ => n - (intOf s8).toNat)
      case atStart => exact ⟨0, rfl, by omega, HRM, HBM⟩
      case round =>
        obtain ⟨j, rfl, hj, HF, HB⟩ := hrel
        by_cases hlt : j < n
        · have hlt' : (j : Int) < (n : Int) := by omega
          obtain ⟨k, hk⟩ : ∃ k : Nat, k = n - 1 - j := ⟨_, rfl⟩
          have hkk : (n : Int) - 1 - (j : Int) = (k : Int) := by omega
          have hkn : (k : Int) < (n : Int) := by omega
          obtain ⟨l, HLK⟩ : ∃ l, Hid (ls[k]? = some l) := ⟨_, List.getElem?_eq_getElem (by rw [HL.out.len]; omega)⟩
          have HLR : Hid (ls.reverse[j]? = some l) := by
            have h := rev_at' HLK.out
            rw [HL.out.len, show n - 1 - k = j by omega] at h
            exact hide h
          obtain ⟨g, o, pv, rfl, hg, c0, c1, c2, c3, c4, c5, hp⟩ := HR1.out k l HLK.out
          obtain ⟨pa, pn, pc, rfl, _, _⟩ := hp.at'
          have q0 := HB.out.cell (p := ⟨g, o + k * 6, none⟩) hg
          have q1 := HB.out.cell (p := ⟨g, o + k * 6 + 1, none⟩) hg
          have q2 := HB.out.cell (p := ⟨g, o + k * 6 + 2, none⟩) hg
          have q3 := HB.out.cell (p := ⟨g, o + k * 6 + 3, none⟩) hg
          have q4 := HB.out.cell (p := ⟨g, o + k * 6 + 4, none⟩) hg
          have q5 := HB.out.cell (p := ⟨g, o + k * 6 + 5, none⟩) hg
          rw [c0] at q0
          rw [c1] at q1
          rw [c2] at q2
          rw [c3] at q3
          rw [c4] at q4
          rw [c5] at q5
          have HP := hide (hp.below HB.out)
          obtain ⟨⟨x0, k0⟩, f0⟩ := HF.out.cell hlt 0 (by omega)
          obtain ⟨⟨x1, k1⟩, f1⟩ := HF.out.cell hlt 1 (by omega)
          obtain ⟨⟨x2, k2⟩, f2⟩ := HF.out.cell hlt 2 (by omega)
          obtain ⟨⟨x3, k3⟩, f3⟩ := HF.out.cell hlt 3 (by omega)
          obtain ⟨⟨x4, k4⟩, f4⟩ := HF.out.cell hlt 4 (by omega)
          obtain ⟨⟨x5, k5⟩, f5⟩ := HF.out.cell hlt 5 (by omega)
          rw [Nat.add_zero] at k0 f0
          obtain ⟨nm, ps, iso⟩ := l
          dsimp only at q0 q5
          have fin : RevTo w1.heap.size n ls.reverse (j + 1) (set6 wr w1.heap.size (j * 6) ⟨nm, ps, iso⟩ (.slice pa pn pc)) ∧ Below w1.heap.size w1 (set6 wr w1.heap.size (j * 6) ⟨nm, ps, iso⟩ (.slice pa pn pc)) := ⟨HF.out.set hlt HLR.out HP.out, set6_below HB.out (Nat.le_refl _) _ _ _⟩
          simp only [set6] at fin
          have FIN := hide fin
          clear fin hp c0 c1 c2 c3 c4 c5 hk
          go_wp2_with fail
          go_roundw
          case rel => exact ⟨j + 1, by go_num, by omega, FIN.out.1, FIN.out.2⟩
          case measure => simp [intOf]; omega
        · obtain rfl : j = n := by omega
          obtain ⟨wb, HWB⟩ : ∃ wb, Hid (wr.alloc (.cells #[.slice a1 j j] 30) = wb) := ⟨_, rfl⟩
          have HBb : Hid (Below wr.heap.size wr wb) := by rw [← HWB.out]; exact (Below.refl _ wr).alloc (Nat.le_refl _) _
          have HB1b := hide (HB.out.trans (Below.mono HBb.out HB.out.size))
          have HLEN : Hid (ls.length = j) := hide HL.out.len
          have C10 : Hid (Calls Try.prog 10 #[.pointer (some ⟨wr.heap.size, 0, none⟩), .string d] wb fun e w' => ZPost ls d wb e w') := by
            have hc : wb.heap[wr.heap.size]? = some (.cells #[.slice a1 j j] 30 (0, 0)) := by rw [← HWB.out]; exact block_new wr _
            exact hide (zz_any wr.heap.size (.slice a1 j j) ls d wb (lt_of_block hc) (by rw [cell_at hc]; rfl) ((HR.out.below HB1b.out).up HB1b.out.size) HS.out HO.out hd)
          have HRR := hide (HF.out.reads (by rw [List.length_reverse]; exact HLEN.out))
          go_upto_region 15 with (
            rw [HWB.out]
            go_at_call 10
            refine C10.out.mono ?_
            rintro e w2 ⟨x1, u1, er1, ti1, s1, s2, m1, m2, rfl, hz1, hb2⟩)
          have HZ1 := hide hz1
          obtain ⟨w3, HW3⟩ : ∃ w3, Hid ((w2.alloc (.cells #[.int .i64 x1, .string u1] 32)).alloc (.cells #[.string m1, .string m2] 33) = w3) := ⟨_, rfl⟩
          have HB23 : Hid (Below w2.heap.size w2 w3) := by rw [← HW3.out]; exact ((Below.refl _ w2).alloc (Nat.le_refl _) _).alloc (by simp) _
          have HP1 : Hid (w3.heap[w2.heap.size]? = some (.cells #[.int .i64 x1, .string u1] 32 (0, 0))) := by
            rw [← HW3.out, Below.heap_alloc _ _ _ (by simp)]
            exact block_new w2 _
          have HBr3 : Hid (Below wr.heap.size wr w3) := by
            have h1 := HBb.out.trans (Below.mono hb2 HBb.out.size)
            exact hide (h1.trans (Below.mono HB23.out h1.size))
          clear hz1 hb2
          rw [HW3.out]
          obtain ⟨wc, HWC⟩ : ∃ wc, Hid (w3.alloc (.cells #[.slice (some ⟨w1.heap.size, 0, none⟩) j j] 30) = wc) := ⟨_, rfl⟩
          have HBc : Hid (Below w3.heap.size w3 wc) := by rw [← HWC.out]; exact (Below.refl _ w3).alloc (Nat.le_refl _) _
          have HBrc := hide (HBr3.out.trans (Below.mono HBc.out HBr3.out.size))
          have D10 : Hid (Calls Try.prog 10 #[.pointer (some ⟨w3.heap.size, 0, none⟩), .string d] wc fun e w' => ZPost ls.reverse d wc e w') := by
            have hc : wc.heap[w3.heap.size]? = some (.cells #[.slice (some ⟨w1.heap.size, 0, none⟩) j j] 30 (0, 0)) := by rw [← HWC.out]; exact block_new w3 _
            exact hide (zz_any w3.heap.size _ ls.reverse d wc (lt_of_block hc) (by rw [cell_at hc]; rfl) ((HRR.out.below HBrc.out).up HBrc.out.size) (by rw [List.length_reverse]; exact HS.out) (fun l hl => HO.out l (List.mem_reverse.1 hl)) hd)
          go_upto_region 16 with (
            rw [HWC.out]
            go_at_call 10
            refine D10.out.mono ?_
            rintro e w4 ⟨x2, u2, er2, ti2, s3, s4, m3, m4, rfl, hz2, hb4⟩)
          have HZ2 := hide hz2
          obtain ⟨w5, HW5⟩ : ∃ w5, Hid ((w4.alloc (.cells #[.int .i64 x2, .string u2] 32)).alloc (.cells #[.string m3, .string m4] 33) = w5) := ⟨_, rfl⟩
          have HB45 : Hid (Below w4.heap.size w4 w5) := by rw [← HW5.out]; exact ((Below.refl _ w4).alloc (Nat.le_refl _) _).alloc (by simp) _
          have HP2 : Hid (w5.heap[w4.heap.size]? = some (.cells #[.int .i64 x2, .string u2] 32 (0, 0))) := by
            rw [← HW5.out, Below.heap_alloc _ _ _ (by simp)]
            exact block_new w4 _
          have HB35 : Hid (Below w3.heap.size w3 w5) := by
            have h1 := HBc.out.trans (Below.mono hb4 HBc.out.size)
            exact hide (h1.trans (Below.mono HB45.out h1.size))
          have HPP : Hid (PP w2.heap.size w4.heap.size x1 x2 u1 u2 w5) := hide ⟨by rw [HB35.out.block _ (lt_of_block HP1.out)]; exact HP1.out, HP2.out⟩
          have HBF : Hid (Below w.heap.size w w5) := by
            have h1 := HBr3.out.trans (Below.mono HB35.out HBr3.out.size)
            have h2 := HB.out.trans (Below.mono h1 HB.out.size)
            exact hide (HB1.out.trans (Below.mono h2 HB1.out.size))
          clear hz2 hb4
          rw [HW5.out]
          obtain ⟨p0, p1, p2, p3⟩ := HPP.out.cells
          have HL5 := hide (HL.out.below HBF.out)
          rcases HZ1.out with ⟨a1, rfl, rfl, rfl, rfl⟩ | ⟨f1, q1, a1, a2, rfl, rfl, rfl, rfl⟩ | ⟨f1, t1, q1, lf1, lt1, a1, a2, a3, a4, rfl, rfl, rfl, rfl, -⟩
          · rcases HZ2.out with ⟨b1, rfl, rfl, rfl, rfl⟩ | ⟨f2, q2, b1, b2, rfl, rfl, rfl, rfl⟩ | ⟨f2, t2, q2, lf2, lt2, b1, b2, b3, b4, rfl, rfl, rfl, rfl, -⟩
            · have HNN := hide (nn_of a1)
              clear a1 b1
              go_wp2_with fail
              go_loopw [23] (fun s23 wx => ∃ i : Nat, s23 = .int .i64 i ∧ i ≤ j ∧ Hid (Below w5.heap.size w5 wx)) (fun s23 _ => j - (intOf s23).toNat)
              case atStart => exact ⟨0, rfl, by omega, Below.refl _ _⟩
              case round =>
                obtain ⟨i, rfl, hi, HBx⟩ := hrel
                obtain ⟨wx, hwx⟩ : ∃ wx, wx = wr := ⟨wr, rfl⟩
                subst hwx
                have HBwx := hide (HBF.out.trans (Below.mono HBx.out HBF.out.size))
                by_cases hlt : i < j
                · have hlt' : (i : Int) < (j : Int) := by omega
                  obtain ⟨g, o, a', n', cap', nm, ps, iso, rfl, hg, he, c1, c2, c3, hn', hp, hrp⟩ := (HL.out.below HBwx.out).cell i hlt
                  have HE := hide he
                  have CN := hide (names_any nm d iso _ ps wx (hrp.up HBwx.out.size) hd)
                  clear hp hrp he
                  go_wp2_with (
                    go_at_call 13
                    refine CN.out.mono ?_
                    rintro e w6 ⟨r, rfl, hr, hb6⟩
                    replace hr := hide hr
                    replace hb6 := hide hb6
                    obtain rfl : r = false := by
                      cases r with
                      | false => rfl
                      | true =>
                        obtain ⟨p, hp1, hp2⟩ := of_names (l := ⟨nm, ps, iso⟩) (hr.out.1 rfl)
                        exact absurd hp2 (HNN.out i _ p HE.out hp1))
                  go_roundw
                  case rel => exact ⟨i + 1, by go_num, by omega, hide (HBx.out.trans (Below.mono hb6.out HBx.out.size))⟩
                  case measure => simp [intOf]; omega
                · obtain rfl : i = j := by omega
                  go_wp2_with fail
                  go_ret
                  exact ⟨rfl, HBwx.out⟩
            · exact absurd (nn_of a1).rev (fun h => uq_not_nn (uq_of b1 b2) h)
            · exact absurd (nn_of a1).rev (fun h => tw_not_nn (tw_of b1 b2) h)
          · rcases HZ2.out with ⟨b1, rfl, rfl, rfl, rfl⟩ | ⟨f2, q2, b1, b2, rfl, rfl, rfl, rfl⟩ | ⟨f2, t2, q2, lf2, lt2, b1, b2, b3, b4, rfl, rfl, rfl, rfl, -⟩
            · exact absurd (uq_of a1 a2).rev (fun h => uq_not_nn h (nn_of b1))
            · obtain ⟨e1, e2, e3⟩ := uq_un HO.out (uq_of a1 a2) (uq_of b1 b2)
              rw [HLEN.out] at e1 e2
              rw [e3]
              rw [e3] at p3
              have HNM : Hid (NamesAt ls d.data.toList f1) := by
                obtain ⟨l, hl, hq⟩ := a1.2.1
                exact hide ⟨l, hl, names_of hq a1.2.2.1⟩
              have hkk : (j : Int) - 1 - (f1 : Int) = (f2 : Int) := by omega
              have hf1 : (f1 : Int) < (j : Int) := by omega
              have hf0 : ¬ (f1 : Int) < 0 := by omega
              obtain ⟨u, HU⟩ : ∃ u : ByteArray, Hid ((⟨(Un q1.base.data.toList d.data.toList).toArray⟩ : ByteArray) = u) := ⟨_, rfl⟩
              have HLD : Hid (LeadP u.data.toList d.data.toList) := by rw [← HU.out]; exact hide (un_lead _ _)
              rw [HU.out] at p1 p3
              clear a1 a2 b1 b2 e1 e3
              obtain ⟨g, o, a', n', cap', nm, ps, iso, rfl, hg, he, c1, c2, c3, hn', hp, hrp⟩ := HL5.out.cell f1 e2
              have HE := hide he
              have CL := hide (lead_any u d w5 hd)
              have CN := hide (names_any nm d iso _ ps w5 (hrp.up HBF.out.size) hd)
              clear hp hrp he
              go_wp2_with (first
                | (go_at_call 14
                   refine CL.out.mono ?_
                   rintro e w6 ⟨r, rfl, hr, rfl⟩
                   obtain rfl : r = true := hr.2 HLD.out
                   clear hr)
                | (go_at_call 13
                   refine CN.out.mono ?_
                   rintro e w6 ⟨r, rfl, hr, hb6⟩
                   obtain rfl : r = true := by
                     obtain ⟨l, hl, hnm⟩ := HNM.out
                     rw [HE.out] at hl
                     cases hl
                     exact hr.2 hnm
                   replace hb6 := hide hb6
                   clear hr))
              go_ret
              exact ⟨rfl, HBF.out.trans (Below.mono hb6.out HBF.out.size)⟩
            · exact absurd (uq_of a1 a2).rev (fun h => uq_not_tw h (tw_of b1 b2))
          · rcases HZ2.out with ⟨b1, rfl, rfl, rfl, rfl⟩ | ⟨f2, q2, b1, b2, rfl, rfl, rfl, rfl⟩ | ⟨f2, t2, q2, lf2, lt2, b1, b2, b3, b4, rfl, rfl, rfl, rfl, -⟩
            · exact absurd (tw_of a1 a2).rev (fun h => tw_not_nn h (nn_of b1))
            · exact absurd (tw_of a1 a2).rev (fun h => uq_not_tw (uq_of b1 b2) h)
            · have HTW := hide (tw_of a1 a2)
              clear a1 a2 a3 a4 b1 b2 b3 b4
              go_wp2_with fail
              go_loopw [21, 22] (fun s21 s22 wx => ∃ i c : Nat, s21 = .int .i64 c ∧ s22 = .int .i64 i ∧ i ≤ j ∧ c ≤ i ∧ Hid (Cnt ls d.data.toList i c) ∧ Hid (Below w5.heap.size w5 wx)) (fun _ s22 _ => j - (intOf s22).toNat)
              case atStart => exact ⟨0, 0, rfl, rfl, by omega, by omega, Cnt.start _ _, Below.refl _ _⟩
              case round =>
                obtain ⟨i, c, rfl, rfl, hi, hci, HC, HBx⟩ := hrel
                obtain ⟨wx, hwx⟩ : ∃ wx, wx = wr := ⟨wr, rfl⟩
                subst hwx
                have HBwx := hide (HBF.out.trans (Below.mono HBx.out HBF.out.size))
                by_cases hlt : i < j
                · have hlt' : (i : Int) < (j : Int) := by omega
                  obtain ⟨g, o, a', n', cap', nm, ps, iso, rfl, hg, he, c1, c2, c3, hn', hp, hrp⟩ := (HL.out.below HBwx.out).cell i hlt
                  have HE := hide he
                  have CN := hide (names_any nm d iso _ ps wx (hrp.up HBwx.out.size) hd)
                  clear hp hrp he
                  go_wp2_with (
                    go_at_call 13
                    refine CN.out.mono ?_
                    rintro e w6 ⟨r, rfl, hr, hb6⟩
                    replace hr := hide hr
                    replace hb6 := hide hb6
                    cases r)
                  · have HC2 : Hid (Cnt ls d.data.toList (i + 1) c) := by
                      refine hide (HC.out.no ?_)
                      rintro ⟨l, hl, hnm⟩
                      rw [HE.out] at hl
                      cases hl
                      exact absurd (hr.out.2 hnm) (by decide)
                    go_roundw
                    case rel => exact ⟨i + 1, c, by go_num, by go_num, by omega, by omega, HC2, hide (HBx.out.trans (Below.mono hb6.out HBx.out.size))⟩
                    case measure => simp [intOf]; omega
                  · have HC2 := hide (HC.out.yes)
                    go_roundw
                    case rel => exact ⟨i + 1, c + 1, by go_num, by go_num, by omega, by omega, HC2, hide (HBx.out.trans (Below.mono hb6.out HBx.out.size))⟩
                    case measure => simp [intOf]; omega
                · obtain rfl : i = j := by omega
                  have hc2 : 2 ≤ c := by
                    obtain ⟨f, t, lf, lt, q, p, h1, h2, h3, h4, h5, h6, h7, h8, h9⟩ := HTW.out
                    have n1 : NamesAt ls d.data.toList f := ⟨lf, h2, names_of h4 h6⟩
                    have n2 : NamesAt ls d.data.toList t := ⟨lt, h3, names_of h5 h7⟩
                    have l1 := lt_some h2
                    have l2 := lt_some h3
                    rw [HLEN.out] at l1 l2
                    rcases Nat.lt_or_gt_of_ne h1 with h | h
                    · exact HC.out.2.2 f t h l2 n1 n2
                    · exact HC.out.2.2 t f h l1 n2 n1
                  have hc2' : (2 : Int) ≤ (c : Int) := by omega
                  obtain ⟨z0, z1, z2, z3⟩ := (HPP.out.below HBx.out).cells
                  go_wp2_with fail
                  go_ret
                  exact ⟨rfl, HBwx.out⟩
end Go.Proofs.Qxb6616084a
