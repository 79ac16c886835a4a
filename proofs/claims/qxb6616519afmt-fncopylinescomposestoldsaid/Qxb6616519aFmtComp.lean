/-
  The second law.
-/
import Derived.Test.Qxb6616519aFmtAsc
import Derived.Sort.AtCall
namespace Go.Proofs.Qxb6616519aFmt
set_option linter.unusedVariables false
open Go.RowKit Go.Extern.Stop Go.Stop Go.Extern
/-- 'ZZCopyLines' where every event is taken. -/
theorem zz_ok (F : Interp) (v : Value) (T : ByteArray) (ev0 : List Int) (aE aF : Addr) (X : List UInt8) (w : World) (hF : F.answers w.tape) (hv : EvAt w.heap.size v ev0 w) (hT : T.size ≤ 1048576) (hev : ev0.length ≤ 1048576) (hE : Errs w.heap.size aE aF w)
    (hfin : runL 0 (lines T.data.toList) (ev0, []) = ([], X)) :
    Calls Tryf.prog 7 #[.string T, v] w fun e w' => e = .returned (.tuple #[.string ⟨X.toArray⟩, .bool false]) ∧ Below w.heap.size w w' :=
  (zz_any F v T ev0 aE aF ([], X) w hF hv hT hev hE hfin).mono (fun e w' h => ⟨h.1, h.2⟩)
/-- A row of ints that is filled, place by place. -/
def FillAt (g n : Nat) (xs : List Int) (i : Nat) (w : World) : Prop := ∃ cur : Array Value, w.heap[g]? = some (.cells cur 3 (0, 0)) ∧ cur.size = n ∧ ∀ j, j < i → cur[j]? = some (.int .i64 (xs.getD j 0))
theorem FillAt.made {n : Nat} {xs : List Int} {M : Array Value} (w : World) (hM : M.size = n) : FillAt w.heap.size n xs 0 (w.alloc (.cells M 3)) := ⟨M, block_new w _, hM, fun j hj => by omega⟩
theorem FillAt.cell {g n i j : Nat} {xs : List Int} {w : World} (h : FillAt g n xs i w) (hj : j < n) : (∃ v, w.cell? ⟨g, j, none⟩ = some v) ∧ w.frozen? ⟨g, j, none⟩ = false := by
  obtain ⟨cur, h1, h2, h3⟩ := h
  exact ⟨⟨cur[j], by rw [cell_at h1, Array.getElem?_eq_getElem (by omega)]⟩, frozen_at h1 j⟩
theorem FillAt.set {g n i : Nat} {xs : List Int} {w : World} (h : FillAt g n xs i w) (hi : i < n) (z : Int) (hz : z = xs.getD i 0) : FillAt g n xs (i + 1) (w.setCell ⟨g, i, none⟩ (.int .i64 z)) := by
  obtain ⟨cur, h1, h2, h3⟩ := h
  refine ⟨_, heap_set h1 i _, by simpa using h2, fun j hj => ?_⟩
  rw [Array.getElem?_setIfInBounds]
  by_cases e : i = j
  · subst e
    rw [if_pos rfl, if_pos (by omega), hz]
  · rw [if_neg e]
    exact h3 j (by omega)
theorem FillAt.ev {g n : Nat} {xs : List Int} {w : World} (h : FillAt g n xs n w) (hn : xs.length = n) (hm : n ≤ maxLen) : EvAt w.heap.size (.slice (some ⟨g, 0, none⟩) n n) xs w := by
  obtain ⟨cur, h1, h2, h3⟩ := h
  refine ⟨_, n, by rw [hn], by omega, hm, fun j hj => ⟨g, 0, rfl, lt_of_block h1, ?_⟩⟩
  rw [cell_at h1, Nat.zero_add]
  exact h3 j (by omega)
theorem size_toArray (X : List UInt8) : (⟨X.toArray⟩ : ByteArray).size = X.length := by simp [ByteArray.size]
set_option maxHeartbeats 8000000 in
set_option maxRecDepth 100000 in
theorem comp_any (F : Interp) (T : ByteArray) (v v' : Value) (e p : List Int) (aE aF : Addr) (w : World) (hF : F.answers w.tape) (hv : EvAt w.heap.size v e w) (hv' : EvAt w.heap.size v' p w) (hT : T.size ≤ maxLen) (hE : Errs w.heap.size aE aF w) :
    Calls Tryf.prog 4 #[.string T, v, v'] w fun e w' => e = .returned (.bool true) ∧ Below w.heap.size w w' := by
  obtain ⟨av, cv, rfl, hlc, hcm, -⟩ := id hv
  obtain ⟨av', cv', rfl, hlc', hcm', -⟩ := id hv'
  obtain ⟨le, hle⟩ : ∃ le, e.length = le := ⟨_, rfl⟩
  obtain ⟨lp, hlp⟩ : ∃ lp, p.length = lp := ⟨_, rfl⟩
  rw [hle] at hv hlc ⊢
  rw [hlp] at hv' hlc' ⊢
  have hnm : le ≤ maxLen := by omega
  have hnm' : lp ≤ maxLen := by omega
  have G1 := hide (bytes3 T av av' le cv lp cv' w hT hnm hnm')
  have HV := hide hv
  have HV' := hide hv'
  have HE := hide hE
  have HF := hide hF
  have HLE := hide hle
  have HLP := hide hlp
  clear hv hv' hE hF hle hlp
  have hT' : T.size ≤ 9223372036854775807 := by unfold maxLen at hT; omega
  have hln' : le ≤ 9223372036854775807 := by unfold maxLen at hnm; omega
  have hlp' : lp ≤ 9223372036854775807 := by unfold maxLen at hnm'; omega
  go_enter Tryf.func4, Tryf.ntmps4
  go_upto_if 37 with (go_at_call 8; refine G1.out.mono ?_; rintro e w' ⟨b, rfl, rfl⟩)
  · go_ret
    exact ⟨rfl, Below.refl _ _⟩
  · go_ret
    exact ⟨rfl, Below.refl _ _⟩
  · go_ret
    exact ⟨rfl, Below.refl _ _⟩
  · go_ret
    exact ⟨rfl, Below.refl _ _⟩
  have hT6 : T.size ≤ 1048576 := by omega
  have hl7 : le ≤ 32768 := by omega
  have hl8 : lp ≤ 32768 := by omega
  clear hT' hln' hlp' G1
  go_cut [1, 7] from 22 to 44 (fun s1 s7 wx => ∃ a1 c1, s1 = .slice a1 le c1 ∧ Hid (EvAt wx.heap.size (.slice a1 le c1) e wx) ∧ Hid (Below w.heap.size w wx))
  case first =>
    cases av with
    | none =>
      go_wp2_with fail
      go_meet
      exact ⟨_, _, rfl, HV, Below.refl _ _⟩
    | some ad =>
      obtain ⟨M, hM, hmk⟩ := made_ints le (by omega)
      obtain ⟨W2, hr, hE2, hB2⟩ := copied_ints HV.out HLE.out hM hnm
      have HR := hide hr
      have HE2 := hide hE2
      have HB2 := hide hB2
      clear hr hE2 hB2
      go_wp2_with fail
      rw [HR.out]
      simp only [Result.andThen]
      rw [Oper.upon_value]
      go_wp2_with fail
      go_meet
      exact ⟨_, _, rfl, HE2, HB2⟩
  case rest =>
  obtain ⟨a1, c1, rfl, HV1, HB1⟩ := hcut
  have HV1' := hide ((HV'.out.below HB1.out).up HB1.out.size)
  clear HV HV'
  go_upto_if 46 with fail
  go_cut [2, 8] from 45 to 53 (fun s2 s8 wx => ∃ a2 c2, s2 = .slice a2 lp c2 ∧ Hid (EvAt wx.heap.size (.slice a2 lp c2) p wx) ∧ Hid (Below wc.heap.size wc wx))
  case first =>
    cases av' with
    | none =>
      go_wp2_with fail
      go_meet
      exact ⟨_, _, rfl, HV1', Below.refl _ _⟩
    | some ad =>
      obtain ⟨M, hM, hmk⟩ := made_ints lp (by omega)
      obtain ⟨W2, hr, hE2, hB2⟩ := copied_ints HV1'.out HLP.out hM hnm'
      have HR := hide hr
      have HE2 := hide hE2
      have HB2 := hide hB2
      clear hr hE2 hB2
      go_wp2_with fail
      rw [HR.out]
      simp only [Result.andThen]
      rw [Oper.upon_value]
      go_wp2_with fail
      go_meet
      exact ⟨_, _, rfl, HE2, HB2⟩
  case rest =>
  rename_i wc0
  obtain ⟨a2, c2, rfl, HV2', HB2⟩ := hcut
  have HV2 := hide ((HV1.out.below HB2.out).up HB2.out.size)
  have HBw := hide (HB1.out.trans (HB2.out.mono HB1.out.size))
  clear HV1 HV1' HB1 HB2
  have SP := hide (split_any T wc hT6)
  go_upto_region 18 with (go_at_call 6; refine SP.out.mono ?_; rintro e w2 ⟨v6, rfl, ho6, hb2⟩; replace ho6 := hide ho6; replace hb2 := hide hb2)
  obtain ⟨a6, c6, rfl, hc6, hcm6, hN6, -⟩ := own_strs ho6.out
  have HV3 := hide ((HV2.out.below hb2.out).up hb2.out.size)
  have HV3' := hide ((HV2'.out.below hb2.out).up hb2.out.size)
  have HBw2 := hide (HBw.out.trans (hb2.out.mono HBw.out.size))
  obtain ⟨N, HNl⟩ : ∃ N, Hid ((lines T.data.toList).length = N) := ⟨_, rfl⟩
  rw [HNl.out] at hc6
  rw [HNl.out]
  have hNT : N ≤ 1048576 := by
    have := lines_len T.data.toList
    rw [HNl.out] at this
    have e : T.data.toList.length = T.size := by rw [Array.length_toList]; rfl
    omega
  have A1 := hide (asc_any a1 le c1 N e w2 HV3.out HLE.out (by omega) hNT)
  have A2 := hide (fun k => asc_any a2 lp c2 le p (w2.drewN k) HV3'.out HLP.out (by omega) (by omega))
  clear SP HV2 HV2' HBw hN6 ho6 hb2 hcm6
  go_upto_region 20 with (first | (go_at_call_has 9 (Value.slice a1 le c1); refine A1.out.mono ?_; rintro e w' ⟨(rfl | ⟨rfl, hA⟩), k, rfl⟩) | (go_at_call_has 9 (Value.slice a2 lp c2); refine (A2.out _).mono ?_; rintro e w' ⟨(rfl | ⟨rfl, hA2⟩), k2, rfl⟩))
  · go_ret
    exact ⟨rfl, HBw2.out.trans ⟨rfl, rfl, rfl, Nat.le_refl _, fun _ _ => rfl⟩⟩
  · go_ret
    exact ⟨rfl, HBw2.out.trans ⟨rfl, rfl, rfl, Nat.le_refl _, fun _ _ => rfl⟩⟩
  clear A1 A2
  have HA := hide hA
  have HA2 := hide hA2
  clear hA hA2
  rw [← HNl.out] at HA
  rw [← HLE.out] at HA2
  obtain ⟨w3, HW3⟩ : ∃ w3, Hid (w2.drewN (k + k2) = w3) := ⟨_, rfl⟩
  have X3 : Hid (Below w2.heap.size w2 w3) := by rw [← HW3.out]; exact ⟨rfl, rfl, rfl, Nat.le_refl _, fun _ _ => rfl⟩
  rw [HW3.out]
  have HFW : Hid (∀ W, Below w2.heap.size w2 W → F.answers W.tape ∧ Errs W.heap.size aE aF W ∧ EvAt W.heap.size (.slice a1 le c1) e W ∧ EvAt W.heap.size (.slice a2 lp c2) p W) := fun W hX => by
    have hb := HBw2.out.trans (hX.mono HBw2.out.size)
    exact ⟨by rw [hb.tape]; exact HF.out, (HE.out.below hb).up hb.size, (HV3.out.below hX).up hX.size, (HV3'.out.below hX).up hX.size⟩
  obtain ⟨Ls, HLs⟩ : ∃ Ls, Hid (lines T.data.toList = Ls) := ⟨_, rfl⟩
  have hTl : T.data.toList.length = T.size := by rw [Array.length_toList]; rfl
  have hpl : Hid ((pick Ls e).length ≤ 1048576) := by
    refine hide ?_
    have h1 := runL_len (lines T.data.toList) 0 (e, [])
    rw [copied_all HA.out, lines_sum, hTl, HLs.out] at h1
    simp only [List.length_nil, Nat.zero_add] at h1
    exact Nat.le_trans h1 hT6
  obtain ⟨tS, HtS⟩ : ∃ tS : ByteArray, Hid ((⟨(pick Ls e).toArray⟩ : ByteArray) = tS) := ⟨_, rfl⟩
  obtain ⟨uS, HuS⟩ : ∃ uS : ByteArray, Hid ((⟨(pick Ls (both e p)).toArray⟩ : ByteArray) = uS) := ⟨_, rfl⟩
  have Z1 : Hid (Calls Tryf.prog 7 #[.string T, .slice a1 le c1] w3 fun e w' => e = .returned (.tuple #[.string tS, .bool false]) ∧ Below w3.heap.size w3 w') := by
    obtain ⟨q1, q2, q3, q4⟩ := HFW.out w3 X3.out
    rw [← HtS.out]
    exact zz_ok F _ T e aE aF (pick Ls e) w3 q1 q3 hT6 (by rw [HLE.out]; omega) q2 (by rw [← HLs.out]; exact copied_all HA.out)
  have Z2 : Hid (∀ W, Below w2.heap.size w2 W → Calls Tryf.prog 7 #[.string tS, .slice a2 lp c2] W fun e w' => e = .returned (.tuple #[.string uS, .bool false]) ∧ Below W.heap.size W w') := fun W hX => by
    obtain ⟨q1, q2, q3, q4⟩ := HFW.out W hX
    rw [← HtS.out, ← HuS.out]
    refine zz_ok F _ _ p aE aF (pick Ls (both e p)) W q1 q4 (by rw [size_toArray]; exact hpl.out) (by rw [HLP.out]; omega) q2 ?_
    show runL 0 (lines (pick Ls e)) (p, []) = _
    rw [← HLs.out]
    exact composed HA.out HA2.out
  have Z3 : Hid (∀ W v, Below w2.heap.size w2 W → EvAt W.heap.size v (both e p) W → Calls Tryf.prog 7 #[.string T, v] W fun e w' => e = .returned (.tuple #[.string uS, .bool false]) ∧ Below W.heap.size W w') := fun W v hX hv => by
    obtain ⟨q1, q2, q3, q4⟩ := HFW.out W hX
    rw [← HuS.out]
    exact zz_ok F v T (both e p) aE aF (pick Ls (both e p)) W q1 hv hT6 (by unfold both; rw [List.length_map, HLP.out]; omega) q2 (by rw [← HLs.out]; exact copied_all (HA.out.both HA2.out))
  have Z4 : Hid (∀ W v, Below w2.heap.size w2 W → EvAt W.heap.size v (upTo N) W → Calls Tryf.prog 7 #[.string T, v] W fun e w' => e = .returned (.tuple #[.string T, .bool false]) ∧ Below W.heap.size W w') := fun W v hX hv => by
    obtain ⟨q1, q2, q3, q4⟩ := HFW.out W hX
    have h := zz_ok F v T (upTo N) aE aF T.data.toList W q1 hv hT6 (by rw [upTo_len]; exact hNT) q2 (by rw [← HNl.out]; exact all_lines _)
    exact h
  go_upto_region 21 with (go_at_call 7; refine Z1.out.mono ?_; rintro e w4 ⟨rfl, hb4⟩; replace hb4 := hide hb4)
  have X4 := hide (X3.out.trans (hb4.out.mono X3.out.size))
  go_upto_region 22 with (go_at_call 7; refine (Z2.out w4 X4.out).mono ?_; rintro e w5 ⟨rfl, hb5⟩; replace hb5 := hide hb5)
  have X5 := hide (X4.out.trans (hb5.out.mono X4.out.size))
  clear Z1 Z2 hb4 hb5 X3 X4 HW3
  obtain ⟨M, hM, hmk⟩ := made_ints lp (by omega)
  obtain ⟨g14, hg14⟩ : ∃ g, w5.heap.size = g := ⟨_, rfl⟩
  have HG14 := hide hg14
  have hcE := (HFW.out w5 X5.out).2.2.1.cells
  have hcP := (HFW.out w5 X5.out).2.2.2.cells
  have HCE := hide hcE
  have HCP := hide hcP
  have F0 : Hid (FillAt g14 lp (both e p) 0 (w5.alloc (.cells M 3))) := by rw [← HG14.out]; exact FillAt.made w5 hM
  have B0 : Hid (Below g14 w5 (w5.alloc (.cells M 3))) := by rw [← HG14.out]; exact (Below.refl _ w5).alloc (Nat.le_refl _) _
  clear hcE hcP
  go_wp2_with fail
  go_loopw [15] (fun s15 wr => ∃ i : Nat, s15 = .int .i64 i ∧ i ≤ lp ∧ Hid (FillAt g14 lp (both e p) i wr) ∧ Hid (Below g14 w5 wr)) (fun s15 _ => lp - (intOf s15).toNat)
  case atStart => exact ⟨0, rfl, by omega, F0, B0⟩
  case round =>
    clear F0 B0 hmk
    obtain ⟨i, rfl, hil, HFi, HBi⟩ := hrel
    by_cases hlt : i < lp
    · obtain ⟨E2, o2, rfl, hEB2, hce2⟩ := HCP.out i hlt
      obtain ⟨g1, g2, -⟩ := HA2.out i (by rw [HLP.out]; exact hlt)
      obtain ⟨k, hk⟩ : ∃ k : Nat, p.getD i 0 = k := ⟨(p.getD i 0).toNat, by omega⟩
      rw [hk] at hce2 g1 g2
      rw [HLE.out] at g2
      obtain ⟨E1, o1, rfl, hEB1, hce1⟩ := HCE.out k (by omega)
      have hbg : Hid ((both e p).getD i 0 = e.getD k 0) := by
        refine hide ?_
        rw [both_get i (by rw [HLP.out]; exact hlt), hk, Int.toNat_natCast]
      generalize e.getD k 0 = x at hce1 hbg
      rw [HG14.out] at hEB1 hEB2
      have d1 : wr.cell? ⟨E1, o1 + k, none⟩ = some (.int .i64 x) := by rw [HBi.out.cell (p := ⟨E1, o1 + k, none⟩) hEB1]; exact hce1
      have d2 : wr.cell? ⟨E2, o2 + i, none⟩ = some (.int .i64 k) := by rw [HBi.out.cell (p := ⟨E2, o2 + i, none⟩) hEB2]; exact hce2
      obtain ⟨⟨v0, d3⟩, d4⟩ := HFi.out.cell (j := i) hlt
      have hlt' : decide ((i : Int) < (lp : Int)) = true := by simp; omega
      have hlt2 : (i : Int) < (lp : Int) := by omega
      have hkl : (k : Int) < (le : Int) := by omega
      clear hk hce1 hce2
      go_wp2
      go_roundw
      case rel => exact ⟨i + 1, by go_num, by omega, HFi.out.set hlt x hbg.out.symm, HBi.out.setCell (p := ⟨g14, i, none⟩) (Nat.le_refl _) _⟩
      case measure => simp [intOf]; omega
    · obtain rfl : i = lp := by omega
      have hge : decide ((i : Int) < (i : Int)) = false := by simp
      have X6 : Hid (Below w2.heap.size w2 wr) := X5.out.trans (HBi.out.mono (by rw [← HG14.out]; exact X5.out.size))
      have Z3' := hide (Z3.out wr (.slice (some ⟨g14, 0, none⟩) i i) X6.out (HFi.out.ev (by unfold both; rw [List.length_map, HLP.out]) hnm'))
      go_upto_region 28 with (go_at_call 7; refine Z3'.out.mono ?_; rintro e w7 ⟨rfl, hb7⟩; replace hb7 := hide hb7)
      have X7 := hide (X6.out.trans (hb7.out.mono X6.out.size))
      clear Z3 Z3' hb7 X6 HFi HBi X5 HCE HCP hg14 HG14 HA HA2
      obtain ⟨M2, hM2, hmk2⟩ := made_ints N hNT
      obtain ⟨g18, hg18⟩ : ∃ g, w7.heap.size = g := ⟨_, rfl⟩
      have HG18 := hide hg18
      have F0 : Hid (FillAt g18 N (upTo N) 0 (w7.alloc (.cells M2 3))) := by rw [← HG18.out]; exact FillAt.made w7 hM2
      have B0 : Hid (Below g18 w7 (w7.alloc (.cells M2 3))) := by rw [← HG18.out]; exact (Below.refl _ w7).alloc (Nat.le_refl _) _
      go_wp2_with fail
      go_loopw [19] (fun s19 wr => ∃ i : Nat, s19 = .int .i64 i ∧ i ≤ N ∧ Hid (FillAt g18 N (upTo N) i wr) ∧ Hid (Below g18 w7 wr)) (fun s19 _ => N - (intOf s19).toNat)
      case atStart => exact ⟨0, rfl, by omega, F0, B0⟩
      case round =>
        clear F0 B0 hmk2
        obtain ⟨j, rfl, hjl, HFj, HBj⟩ := hrel
        by_cases hlt : j < N
        · obtain ⟨⟨v0, d3⟩, d4⟩ := HFj.out.cell (j := j) hlt
          have hlt' : decide ((j : Int) < (N : Int)) = true := by simp; omega
          have hlt2 : (j : Int) < (N : Int) := by omega
          go_wp2
          go_roundw
          case rel => exact ⟨j + 1, by go_num, by omega, HFj.out.set hlt j (upTo_get hlt).symm, HBj.out.setCell (p := ⟨g18, j, none⟩) (Nat.le_refl _) _⟩
          case measure => simp [intOf]; omega
        · obtain rfl : j = N := by omega
          have hge : decide ((j : Int) < (j : Int)) = false := by simp
          have X8 : Hid (Below w2.heap.size w2 wr) := X7.out.trans (HBj.out.mono (by rw [← HG18.out]; exact X7.out.size))
          have Z4' := hide (Z4.out wr (.slice (some ⟨g18, 0, none⟩) j j) X8.out (HFj.out.ev (upTo_len j) (by unfold maxLen; omega)))
          go_upto_region 34 with (go_at_call 7; refine Z4'.out.mono ?_; rintro e w9 ⟨rfl, hb9⟩; replace hb9 := hide hb9)
          clear Z4 Z4'
          go_wp2
          go_ret
          refine ⟨by first | rfl | simp, HBw2.out.trans ((X8.out.trans (hb9.out.mono X8.out.size)).mono HBw2.out.size)⟩
end Go.Proofs.Qxb6616519aFmt
