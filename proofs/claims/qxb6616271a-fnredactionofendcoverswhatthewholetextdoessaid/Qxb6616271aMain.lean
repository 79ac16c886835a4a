/-
  The law's function.
-/
import Derived.Test.Qxb6616271aFields
import Derived.Deep.CutRange
import Derived.Laws.CopyOwn
import Derived.Laws.Cover3
import Derived.Sort.AtCall
namespace Go.Proofs.Qxb6616271a
set_option linter.unusedVariables false
open Go.RowKit
theorem Try.info9 : (Try.prog.info? 9).map (fun i => (i.zero, i.size, i.bytes)) = some (some (.string ⟨#[]⟩), 1, 16) := by kernel_rfl
theorem Try.size9 : (Try.prog.info? 9).map (·.size) = some 1 := by kernel_rfl
def strV (T : List ByteArray) : List Value := T.map Value.string
theorem strV_one (T : List ByteArray) : ∀ v ∈ strV T, v.oneCell' = true := by
  intro v hv
  unfold strV at hv
  rw [List.mem_map] at hv
  obtain ⟨s, _, rfl⟩ := hv
  rfl
theorem strV_at {T : List ByteArray} {j : Nat} {v : Value} (h : (strV T)[j]? = some v) : j < T.length ∧ v = .string (T.getD j ByteArray.empty) := by
  unfold strV at h
  rw [List.getElem?_map] at h
  cases e : T[j]? with
  | none => rw [e] at h; cases h
  | some s =>
    rw [e] at h
    simp only [Option.map_some, Option.some.injEq] at h
    have hj := (List.getElem?_eq_some_iff.1 e).1
    exact ⟨hj, by rw [← h, List.getD, e]; rfl⟩
/-- The row that was made. -/
theorem made_row {w1 : World} {n g base : Nat} {xs : List Value} (ho : w1.ownsRow base 9 1 (.slice (some ⟨g, 0, none⟩) n n) n xs) : ∃ cur : List Value, Hid (w1.heap[g]? = some (.cells cur.toArray 9 (0, 0))) ∧ cur.length = n := by
  rcases ho.2 with ⟨h', _⟩ | ⟨g', cap', cur, h', _, hg, _, _, hs, _⟩
  · simp at h'
  · simp only [Value.slice.injEq, Option.some.injEq, Addr.mk.injEq] at h'
    obtain ⟨⟨rfl, _, _⟩, _, rfl⟩ := h'
    exact ⟨cur.toList, by show _ = _; rw [Array.toArray_toList]; exact hg, by rw [Array.length_toList]; omega⟩
/-- The copy reads as the slice that was copied. -/
theorem copied {w : World} {g n : Nat} {T : List ByteArray} {cur : List Value} (hn : T.length = n) (h : w.heap[g]? = some (.cells (splice cur 0 (strV T)).toArray 9 (0, 0))) : ReadsS w (.slice (some ⟨g, 0, none⟩) n n) T := by
  subst hn
  have hl : (strV T).length = T.length := by simp [strV]
  refine ⟨_, _, rfl, Nat.le_refl _, fun j hj => ⟨_, 0, rfl, ?_⟩⟩
  rw [Nat.zero_add]
  simp only [World.cell?, h]
  show (splice cur 0 (strV T)).toArray[j]? = _
  unfold splice
  simp only [List.take_zero, List.nil_append, List.getElem?_toArray]
  rw [List.getElem?_append_left (by omega)]
  simp [strV, List.getD, List.getElem?_eq_getElem hj]
theorem copy_src {w w1 : World} {T : List ByteArray} {ad : Addr} {cap : Nat} (h : ReadsS w (.slice (some ad) T.length cap) T) (hb : Below w.heap.size w w1) : ∀ j v, (strV T)[j]? = some v → w1.cell? (ad.add j) = some v := by
  intro j v hv
  obtain ⟨hj, rfl⟩ := strV_at hv
  obtain ⟨a, c, e, _, h⟩ := h.below hb
  simp only [Value.slice.injEq] at e
  obtain ⟨rfl, _, _⟩ := e
  obtain ⟨g, o, e, hc⟩ := h j hj
  simp only [Option.some.injEq] at e
  subst e
  rw [addr_add]
  exact hc
theorem pairs_ok {T N : List ByteArray} (hTN : T.length = N.length) (hpos : ∀ j, j < T.length → 0 < (T.getD j ByteArray.empty).size) (h1 : ∀ j, j < T.length → (T.getD j ByteArray.empty).size ≤ 1048576) (h2 : ∀ j, j < N.length → (N.getD j ByteArray.empty).size ≤ 1048576) :
    ∀ i, i < (T.zip N).length → 0 < ((T.zip N).getD i P0).1.size ∧ ((T.zip N).getD i P0).1.size ≤ 1048576 ∧ ((T.zip N).getD i P0).2.size ≤ 1048576 := by
  intro i hi
  rw [List.length_zip] at hi
  have e : (T.zip N).getD i P0 = (T.getD i ByteArray.empty, N.getD i ByteArray.empty) := by
    rw [List.getD, List.getD, List.getD, List.getElem?_eq_getElem (by rw [List.length_zip]; omega), List.getElem?_eq_getElem (by omega : i < T.length), List.getElem?_eq_getElem (by omega : i < N.length)]
    simp
  rw [e]
  exact ⟨hpos i (by omega), h1 i (by omega), h2 i (by omega)⟩
theorem texts_zip {T N : List ByteArray} (hTN : T.length = N.length) : texts (T.zip N) = T.map fun s => s.data.toList := by
  unfold texts
  apply List.ext_getElem?
  intro i
  rw [List.getElem?_map, List.getElem?_map]
  by_cases h : i < T.length
  · rw [List.getElem?_eq_getElem (by rw [List.length_zip]; omega), List.getElem?_eq_getElem h]
    simp
  · rw [List.getElem?_eq_none (by rw [List.length_zip]; omega), List.getElem?_eq_none (by omega)]
    rfl
theorem RedDone.below {w w' : World} {R : Nat} {X : List UInt8} {C : Option (List Int)} {ml : List Nat} (h : RedDone w R X C ml) (hb : Below w.heap.size w w') : RedDone w' R X C ml := by
  obtain ⟨v, vc, vm, h1, h2⟩ := h
  exact ⟨v, vc, vm, (hb.block _ (lt_of_block h1)).trans h1, h2.below hb⟩
theorem SecAt.below {w w' : World} {base S : Nat} {l : Pairs} (h : SecAt w base S l) (hb : Below w.heap.size w w') : SecAt w' base S l := by
  obtain ⟨v, h1, h2⟩ := h
  refine ⟨v, (hb.block _ (lt_of_block h1)).trans h1, h2.1, ?_⟩
  rcases h2.2 with h | ⟨g, cap, cur, e, hg, hh, rest⟩
  · exact .inl h
  · exact .inr ⟨g, cap, cur, e, hg, (hb.block _ (lt_of_block hh)).trans hh, rest⟩
/-- The form of what 'covered' holds. -/
theorem ReadsC.form {w : World} {vc : Value} {C : Option (List Int)} (h : ReadsC w vc C) : ∃ a n c, vc = .slice a n c ∧ a.isNone = C.isNone ∧ ∀ l, C = some l → n = l.length := by
  cases C with
  | none => obtain rfl : vc = .slice none 0 0 := h; exact ⟨_, _, _, rfl, rfl, fun l h => by cases h⟩
  | some c =>
    obtain ⟨g, o, cap, rfl, _⟩ := h
    exact ⟨_, _, _, rfl, rfl, fun l h => by cases h; rfl⟩
theorem cov_len {a : Option Addr} {C : Option (List Int)} {n m : Nat} (h : a.isNone = C.isNone) (h1 : ∀ l, C = some l → n = l.length) (h2 : Sized m C) : ∀ d, a = some d → n = m := by
  rintro d rfl
  cases C with
  | none => cases h
  | some c => exact (h1 c rfl).trans (h2 c rfl)
theorem cov_nil {a : Option Addr} {C : Option (List Int)} {X : List UInt8} {ml : List Nat} {le : Int} (h : a.isNone = C.isNone) (h1 : lenOf X C ml = le) : a = none → le = X.length := by
  rintro rfl
  cases C with
  | none => exact h1.symm
  | some c => cases h
theorem reads_at {w : World} {p : Option Addr} {c k : Nat} {T : List ByteArray} (h : ReadsS w (.slice p T.length c) T) (hk : k < T.length) : ∃ g o, p = some ⟨g, o, none⟩ ∧ w.cell? ⟨g, o + k, none⟩ = some (.string (T.getD k ByteArray.empty)) := by
  obtain ⟨a, cap, e, _, h⟩ := h
  simp only [Value.slice.injEq] at e
  obtain ⟨rfl, _, _⟩ := e
  exact h k hk
theorem maxBrk_next (X : List UInt8) (T : List ByteArray) (k : Nat) (h : k < T.length) : maxBrk X ((T.map fun s => s.data.toList).take (k + 1)) 0 = max (maxBrk X ((T.map fun s => s.data.toList).take k) 0) (brk X (T.getD k ByteArray.empty).data.toList) := by
  rw [List.take_add_one, List.getElem?_map, List.getD, List.getElem?_eq_getElem h]
  exact maxBrk_snoc X _ _ 0
set_option maxRecDepth 100000 in
set_option maxHeartbeats 2000000 in
theorem main_any (v0 v1 v2 : Value) (T N : List ByteArray) (X : List UInt8) (m : Int) (w : World) (h0 : ReadsS w v0 T) (h1 : ReadsS w v1 N) (h2 : ReadsB w v2 X) (l0 : T.length ≤ maxLen) (l1 : N.length ≤ maxLen) (l2 : X.length ≤ maxLen) (hm : w.cell? ⟨0, 0, none⟩ = some (.int .i64 m)) :
    Calls Try.prog 5 #[v0, v1, v2] w fun e w' => e = .returned (.bool true) ∧ Below w.heap.size w w' := by
  have G1 := hide (bytes_any v0 v1 v2 T N X w h0 h1 h2 l0 l1 l2)
  have G2 := hide (within_any v0 v1 v2 T N X w h0 h1 h2 l0 l1 l2)
  have G3 : Hid (Within T N X → Calls Try.prog 11 #[v0, v1] w fun e w' => (∃ n, w' = w.drewN n) ∧ (e = .returned (.bool false) ∨ (e = .returned (.bool true) ∧ Hid (T.length = N.length) ∧ Hid (∀ j, j < T.length → 0 < (T.getD j ByteArray.empty).size)))) := fun hw => reach_any v0 v1 T N w h0 h1 (by have := hw.2.1; omega) (by have := hw.2.2.1; omega) hw.2.2.2.1
  have H0 := hide h0
  have H1 := hide h1
  have H2 := hide h2
  clear h0 h1 h2 l0 l1 l2
  obtain ⟨p0, c0, rfl⟩ : ∃ p c, v0 = .slice p T.length c := by obtain ⟨p, c, rfl, _⟩ := H0.out; exact ⟨p, c, rfl⟩
  obtain ⟨p1, c1, rfl⟩ : ∃ p c, v1 = .slice p N.length c := by obtain ⟨p, c, rfl, _⟩ := H1.out; exact ⟨p, c, rfl⟩
  have hne := fun (a : Option Addr) (l c : Nat) (w : World) => run_neq_slice_nil (P := Try.prog) w 22 9 a l c Try.underlying22
  obtain ⟨i0, hi, hz0, hz1, hz2⟩ := info_parts Try.info9
  go_enter Try.func5, Try.ntmps5
  go_upto_if 41 with (first | (go_at_call 9; refine G1.out.mono ?_; rintro e w' ⟨b, rfl, rfl⟩) | (go_at_call 10; refine G2.out.mono ?_; rintro e w' ⟨rfl, (rfl | ⟨rfl, hw⟩)⟩) | (go_at_call 11; refine (G3.out hw).mono ?_; rintro e w' ⟨⟨q, rfl⟩, (rfl | ⟨rfl, HTN, HPOS⟩)⟩))
  · go_ret
    exact ⟨rfl, Below.refl _ _⟩
  · go_ret
    exact ⟨rfl, Below.refl _ _⟩
  · go_ret
    exact ⟨rfl, ⟨rfl, rfl, rfl, Nat.le_refl _, fun _ _ => rfl⟩⟩
  · obtain ⟨b1, b2, b3, b4, b5⟩ := hw
    have HW := hide b4
    have HW2 := hide b5
    have BL0 : Hid (Below w.heap.size w (w.drewN q)) := ⟨rfl, rfl, rfl, Nat.le_refl _, fun _ _ => rfl⟩
    clear G1 G2 G3 b4 b5
    go_cut [0, 7] from 42 to 48 (fun s0 s7 wx => ∃ p c, s0 = .slice p T.length c ∧ Hid (ReadsS wx s0 T) ∧ Hid (Below w.heap.size w wx))
    case first =>
      cases p0 with
      | none =>
        go_wp2_with fail
        go_meet
        exact ⟨_, _, rfl, H0.out.below BL0.out, BL0⟩
      | some ad =>
        have HR0 := hide (H0.out.below BL0.out)
        obtain ⟨cs, HCS⟩ : ∃ cs, Hid (strV T = cs) := ⟨_, rfl⟩
        have hcl : cs.length = T.length := by rw [← HCS.out]; simp [strV]
        have C1 := hide (HCS.out ▸ strV_one T)
        go_wp2_with (at_make; refine wpList_make_full _ rfl (.tmp 43) (.tmp 43) 22 rfl w.heap.size 9 i0 (.string ⟨#[]⟩) 1 Try.underlying22 hi hz0 hz1 .i64 .i64 _ _ T.length rfl rfl rfl rfl (by rw [hz2]; omega) (by unfold maxLen; omega) (Nat.le_refl _) ?_; intro w1 hown hgrow; have HB1 := hide ((Below.refl _ _).grown hgrow (Nat.le_refl _) (fun k h => by cases h)); obtain ⟨cur, HCUR, hcn⟩ := made_row hown; have HSRC := hide (HCS.out ▸ copy_src HR0.out HB1.out); clear hown hgrow)
        obtain ⟨w2, hw2⟩ : ∃ w2, w2 = w1.setRow w.heap.size (cur.toArray.toList.take 0 ++ cs ++ cur.toArray.toList.drop (0 + cs.length)).toArray := ⟨_, rfl⟩
        have hrun := run_copy_row (P := Try.prog) w1 22 22 3 9 w.heap.size 0 T.length T.length ad T.length c0 cur.toArray 9 cs Try.underlying22 Try.size9 HCUR.out (by rw [hcl]; simp) HSRC.out (by simp; omega) C1.out
        rw [← hw2] at hrun
        rw [hrun]
        have HN : Hid (w2.heap[w.heap.size]? = some (.cells (splice cur 0 cs).toArray 9 (0, 0))) := by
          show _ = _
          rw [hw2, setRow_heap w1 w.heap.size _ _ 9 (0, 0) HCUR.out, splice, List.append_assoc]
        have HB2 : Hid (Below w.heap.size w w2) := by
          rw [hw2]
          exact BL0.out.trans (below_setRow HB1.out (Nat.le_refl _) _)
        clear hw2 hrun HB1 HSRC HCUR
        go_wp2_with fail
        go_meet
        refine ⟨_, _, rfl, ?_, HB2⟩
        have := HN.out
        rw [← HCS.out] at this
        exact copied (cur := cur) rfl this
    case rest =>
    obtain ⟨p0, c0, rfl, R0, B0⟩ := hcut
    clear H0 BL0
    go_upto_if 50 with fail
    go_cut [1, 8] from 51 to 57 (fun s1 s8 wx => ∃ p c, s1 = .slice p N.length c ∧ Hid (ReadsS wx s1 N) ∧ Hid (Below wc.heap.size wc wx))
    case first =>
      cases p1 with
      | none =>
        go_wp2_with fail
        go_meet
        exact ⟨_, _, rfl, H1.out.below B0.out, Below.refl _ _⟩
      | some ad =>
        have HR0 := hide (H1.out.below B0.out)
        obtain ⟨cs, HCS⟩ : ∃ cs, Hid (strV N = cs) := ⟨_, rfl⟩
        have hcl : cs.length = N.length := by rw [← HCS.out]; simp [strV]
        have C1 := hide (HCS.out ▸ strV_one N)
        go_wp2_with (at_make; refine wpList_make_full _ rfl (.tmp 52) (.tmp 52) 22 rfl wc.heap.size 9 i0 (.string ⟨#[]⟩) 1 Try.underlying22 hi hz0 hz1 .i64 .i64 _ _ N.length rfl rfl rfl rfl (by rw [hz2]; omega) (by unfold maxLen; omega) (Nat.le_refl _) ?_; intro w1 hown hgrow; have HB1 := hide ((Below.refl _ _).grown hgrow (Nat.le_refl _) (fun k h => by cases h)); obtain ⟨cur, HCUR, hcn⟩ := made_row hown; have HSRC := hide (HCS.out ▸ copy_src HR0.out HB1.out); clear hown hgrow)
        obtain ⟨w2, hw2⟩ : ∃ w2, w2 = w1.setRow wc.heap.size (cur.toArray.toList.take 0 ++ cs ++ cur.toArray.toList.drop (0 + cs.length)).toArray := ⟨_, rfl⟩
        have hrun := run_copy_row (P := Try.prog) w1 22 22 3 9 wc.heap.size 0 N.length N.length ad N.length c1 cur.toArray 9 cs Try.underlying22 Try.size9 HCUR.out (by rw [hcl]; simp) HSRC.out (by simp; omega) C1.out
        rw [← hw2] at hrun
        rw [hrun]
        have HN : Hid (w2.heap[wc.heap.size]? = some (.cells (splice cur 0 cs).toArray 9 (0, 0))) := by
          show _ = _
          rw [hw2, setRow_heap w1 wc.heap.size _ _ 9 (0, 0) HCUR.out, splice, List.append_assoc]
        have HB2 : Hid (Below wc.heap.size wc w2) := by
          rw [hw2]
          exact below_setRow HB1.out (Nat.le_refl _) _
        clear hw2 hrun HB1 HSRC HCUR
        go_wp2_with fail
        go_meet
        refine ⟨_, _, rfl, ?_, HB2⟩
        have := HN.out
        rw [← HCS.out] at this
        exact copied (cur := cur) rfl this
    case rest =>
    obtain ⟨p1, c1, rfl, R1, B1⟩ := hcut
    have R0' := hide (R0.out.below B1.out)
    have B' := hide (B0.out.trans (B1.out.mono B0.out.size))
    have H2' := hide (H2.out.below B'.out)
    have hm' : wc.cell? ⟨0, 0, none⟩ = some (.int .i64 m) := by rw [B'.out.cell (p := ⟨0, 0, none⟩) (World.block_lt_of_cell? _ _ hm)]; exact hm
    clear R0 B0 B1 H1 H2 hm
    have HP := hide (pairs_ok HTN.out HPOS.out HW.out HW2.out)
    have hzl : (T.zip N).length ≤ 65536 := by rw [List.length_zip]; omega
    generalize hZ : T.zip N = Z at HP hzl
    have HZ := hide hZ
    clear hZ
    have CL := hide (clone_text v2 X wc H2'.out (by omega))
    go_upto_region 16 with (go_at_call 12; refine CL.out.mono ?_; rintro e w1 ⟨v3, rfl, rd3, tv3, bl3⟩)
    have RD3 := hide rd3
    have BL3 := hide bl3
    clear rd3 bl3 tv3 CL
    obtain ⟨a3, c3, rfl⟩ : ∃ a c, v3 = .slice a X.length c := by obtain ⟨a, c, rfl, _⟩ := RD3.out; exact ⟨a, c, rfl⟩
    have SC := hide (secrets_any (.slice p0 T.length c0) (.slice p1 N.length c1) T N w1 (R0'.out.below BL3.out) (R1.out.below BL3.out) (by omega) (by omega) (Nat.le_of_eq HTN.out))
    rw [HZ.out] at SC
    go_upto_region 17 with (go_at_call 13; refine SC.out.mono ?_; rintro e w2 ⟨rfl, sa, bl4⟩)
    have SA := hide sa
    have BL4 := hide bl4
    clear sa bl4 SC
    have hm2 : w2.cell? ⟨0, 0, none⟩ = some (.int .i64 m) := by
      have e1 := (BL3.out.cell (p := ⟨0, 0, none⟩) (World.block_lt_of_cell? _ _ hm')).trans hm'
      exact (BL4.out.cell (p := ⟨0, 0, none⟩) (World.block_lt_of_cell? _ _ e1)).trans e1
    have BA := hide (B'.out.trans ((BL3.out.trans (BL4.out.mono BL3.out.size)).mono B'.out.size))
    have RA := hide (RD3.out.below BL4.out)
    have TA := hide ((R0'.out.below BL3.out).below BL4.out)
    generalize w1.heap.size = S at SA ⊢
    clear hm' B' R0' R1 H2' BL3 BL4 RD3
    have CL := hide (clone_text (.slice a3 X.length c3) X w2 RA.out (by omega))
    have OE : Hid (∀ v w3, ReadsB w3 v X → TextV X v → Below w2.heap.size w2 w3 → Calls Try.prog 14 #[.pointer (some ⟨S, 0, none⟩), v] w3 fun e w' => ∃ R, e = .returned (.pointer (some ⟨R, 0, none⟩)) ∧ RedDone w' R X (redM true X 0 (texts Z) none) (mls Z) ∧ Below w3.heap.size w3 w') := fun v w3 h1 h2 h3 => of_end S S Z v X m w3 (SA.out.below h3) h1 h2 b1 hzl HP.out ((h3.cell (p := ⟨0, 0, none⟩) (World.block_lt_of_cell? _ _ hm2)).trans hm2)
    go_upto_region 18 with (first | (go_at_call 12; refine CL.out.mono ?_; rintro e w3 ⟨v4, rfl, rd4, tv4, bl5⟩) | (go_at_call 14; refine (OE.out _ _ rd4 tv4 bl5).mono ?_; rintro e w4 ⟨Re, rfl, de, bl6⟩))
    have DE := hide de
    have BB := hide (bl5.trans (bl6.mono bl5.size))
    clear rd4 tv4 bl5 bl6 de CL OE
    have hm4 := (BB.out.cell (p := ⟨0, 0, none⟩) (World.block_lt_of_cell? _ _ hm2)).trans hm2
    have SA4 := hide (SA.out.below BB.out)
    have RA4 := hide (RA.out.below BB.out)
    have TA4 := hide (TA.out.below BB.out)
    have BA4 := hide (BA.out.trans (BB.out.mono BA.out.size))
    clear hm2 SA RA TA BA BB
    have CL := hide (clone_text (.slice a3 X.length c3) X w4 RA4.out (by omega))
    have OE : Hid (∀ v w3, ReadsB w3 v X → TextV X v → Below w4.heap.size w4 w3 → Calls Try.prog 15 #[.pointer (some ⟨S, 0, none⟩), v, .bool false, .bool false] w3 fun e w' => ∃ R, e = .returned (.pointer (some ⟨R, 0, none⟩)) ∧ RedDone w' R X (redM false X 0 (texts Z) none) (mls Z) ∧ Below w3.heap.size w3 w') := fun v w3 h1 h2 h3 => zz_red S S Z v X m w3 (SA4.out.below h3) h1 h2 b1 hzl HP.out ((h3.cell (p := ⟨0, 0, none⟩) (World.block_lt_of_cell? _ _ hm4)).trans hm4)
    go_upto_region 19 with (first | (go_at_call 12; refine CL.out.mono ?_; rintro e w5 ⟨v5, rfl, rd4, tv4, bl5⟩) | (go_at_call 15; refine (OE.out _ _ rd4 tv4 bl5).mono ?_; rintro e w6 ⟨Rw, rfl, de, bl6⟩))
    have DW := hide de
    have BB := hide (bl5.trans (bl6.mono bl5.size))
    clear rd4 tv4 bl5 bl6 de CL OE
    have DE6 := hide (DE.out.below BB.out)
    have RA6 := hide (RA4.out.below BB.out)
    have TA6 := hide (TA4.out.below BB.out)
    have BA6 := hide (BA4.out.trans (BB.out.mono BA4.out.size))
    clear hm4 SA4 RA4 TA4 BA4 BB DE HP
    have LAW := hide (law X (texts Z))
    have LAW2 := hide (law_same X (texts Z) 0 none)
    have SZe := hide (Sized.red (cut := true) (X := X) (texts Z) 0 (C := none) (fun c h => by cases h))
    have SZw := hide (Sized.red (cut := false) (X := X) (texts Z) 0 (C := none) (fun c h => by cases h))
    have TZ := hide (HZ.out ▸ texts_zip HTN.out)
    generalize redM true X 0 (texts Z) none = Ce at DE6 LAW LAW2 SZe
    generalize redM false X 0 (texts Z) none = Cw at DW LAW LAW2 SZw
    generalize mls Z = ml at DE6 DW
    obtain ⟨ve, vce, vme, fe, rce⟩ := DE6.out
    obtain ⟨vw, vcw, vmw, fw, rcw⟩ := DW.out
    have FE := fun q => hide (fields_any Re ve vce vme (lenOf X Ce ml) (w6.drewN q) fe)
    have FW := fun q => hide (fields_any Rw vw vcw vmw (lenOf X Cw ml) (w6.drewN q) fw)
    have RCE := hide rce
    have RCW := hide rcw
    obtain ⟨ae, ne, ce, rfl, hae, hne1⟩ := RCE.out.form
    obtain ⟨aw, nw, cw, rfl, haw, hnw1⟩ := RCW.out.form
    clear fe fw rce rcw DE6 DW
    have HAE := hide hae
    have HAW := hide haw
    have HNE := hide hne1
    have HNW := hide hnw1
    have LE := hide (show lenOf X Ce ml = lenOf X Ce ml from rfl)
    generalize hle : lenOf X Ce ml = le at FE
    generalize hlw : lenOf X Cw ml = lw at FW
    have HLE := hide hle
    have HLW := hide hlw
    clear hae haw hne1 hnw1 hle hlw LE
    go_upto_region 23 with (first | (go_at_call_has 16 (Value.pointer (some ⟨Re, 0, none⟩)); refine (FE 0).out.mono ?_; rintro e w7 ⟨rfl, q7, rfl⟩) | (go_at_call_has 16 (Value.pointer (some ⟨Rw, 0, none⟩)); refine (FW _).out.mono ?_; rintro e w8 ⟨rfl, q8, rfl⟩))
    have KE := hide (cov_len HAE.out HNE.out SZe.out)
    have KW := hide (cov_len HAW.out HNW.out SZw.out)
    have hne3 := fun (a : Option Addr) (l c : Nat) (w : World) => run_neq_slice_nil (P := Try.prog) w 39 21 a l c Try.underlying39
    have heq3 := fun (a : Option Addr) (n c : Nat) (w : World) => Lib.run_eql_slice_nil (P := Try.prog) w 39 21 a n c 0 0 Try.underlying39
    go_cut [110] from 91 to 110 (fun s110 wx => s110 = .bool false ∧ Hid (∃ q, wx = w6.drewN q))
    case first =>
      cases ae with
      | none =>
        cases aw with
        | none =>
          go_wp2_with fail
          go_meet
          exact ⟨rfl, _, rfl⟩
        | some d =>
          obtain rfl := KW.out d rfl
          go_wp2_with fail
          go_meet
          exact ⟨rfl, _, rfl⟩
      | some d =>
        obtain rfl := KE.out d rfl
        cases aw with
        | none =>
          go_wp2_with fail
          go_meet
          exact ⟨rfl, _, rfl⟩
        | some d2 =>
          obtain rfl := KW.out d2 rfl
          go_wp2_with fail
          go_meet
          exact ⟨rfl, _, rfl⟩
    case rest =>
    obtain ⟨rfl, q, rfl⟩ := hcut
    have KLE := hide (cov_nil HAE.out HLE.out)
    have KLW := hide (cov_nil HAW.out HLW.out)
    have LL : Hid (maxBrk X (T.map fun s => s.data.toList) 0 = 0 → le = lw) := fun h => by
      rw [← TZ.out] at h
      have := LAW2.out h
      rw [← HLE.out, ← HLW.out, this]
    rw [TZ.out] at LAW
    clear FE FW hne3 KE KW HAE HAW HNE HNW HLE HLW LAW2 TZ HZ hzl
    go_wp2
    go_loopw [20, 21] (fun s20 s21 wr => ∃ (k q : Nat) (M : Nat), k ≤ T.length ∧ s21 = .int .i64 k ∧ s20 = .int .i64 M ∧ wr = w6.drewN q ∧ M ≤ X.length ∧ Hid (M = maxBrk X ((T.map fun s => s.data.toList).take k) 0)) (fun _ s21 _ => T.length - (intOf s21).toNat)
    case atStart => exact ⟨0, _, 0, by omega, rfl, rfl, rfl, by omega, rfl⟩
    case round =>
      obtain ⟨k, q, M, hk, rfl, rfl, rfl, hM, HM⟩ := hrel
      by_cases hlt : k < T.length
      · have LA := hide (longest_any (.slice a3 X.length c3) X (T.getD k ByteArray.empty) (w6.drewN q) RA6.out (by omega) (by have := HW.out k hlt; omega) (HPOS.out k hlt))
        have BK := hide (brk_le X (T.getD k ByteArray.empty).data.toList)
        have MS := hide (maxBrk_next X T k hlt)
        have r0 := reads_at TA6.out hlt
        obtain ⟨g0, o0, rfl, r0⟩ := r0
        have hkI : (k : Int) < (T.length : Int) := by omega
        generalize T.getD k ByteArray.empty = tx at LA BK MS r0
        generalize brk X tx.data.toList = B at LA BK MS
        have hBX := BK.out
        by_cases hgt : M < B
        · have hgI : (M : Int) < (B : Int) := by omega
          go_wp2_with (go_at_call 17; refine LA.out.mono ?_; rintro e w' ⟨rfl, q2, rfl⟩)
          go_roundw
          case rel => exact ⟨k + 1, _, B, by omega, by go_num, rfl, rfl, by omega, by show _ = _; rw [MS.out, ← HM.out]; omega⟩
          case measure => simp [intOf]; omega
        · have hgI : ¬ ((M : Int) < (B : Int)) := by omega
          go_wp2_with (go_at_call 17; refine LA.out.mono ?_; rintro e w' ⟨rfl, q2, rfl⟩)
          go_roundw
          case rel => exact ⟨k + 1, _, M, by omega, by go_num, rfl, rfl, by omega, by show _ = _; rw [MS.out, ← HM.out]; omega⟩
          case measure => simp [intOf]; omega
      · have et : (T.map fun s => s.data.toList).take k = T.map fun s => s.data.toList := List.take_of_length_le (by rw [List.length_map]; omega)
        rw [et] at HM
        rw [← HM.out] at LAW LL
        go_wp2
        go_loopw [23] (fun s23 wr => ∃ p : Nat, p ≤ X.length ∧ s23 = .int .i64 p ∧ wr = w6.drewN q) (fun s23 _ => X.length - (intOf s23).toNat)
        case atStart => exact ⟨0, by omega, rfl, rfl⟩
        case round =>
          obtain ⟨p, hp, rfl, rfl⟩ := hrel
          by_cases hpn : p < X.length
          · have CE := hide (covered_any (.slice ae ne ce) Ce p X.length (w6.drewN q) RCE.out SZe.out hpn (by omega))
            have CW := hide (covered_any (.slice aw nw cw) Cw p X.length (w6.drewN q) RCW.out SZw.out hpn (by omega))
            obtain ⟨L1, L2, L3⟩ := LAW.out p hpn
            generalize at0 Ce p = x at CE L1 L2 L3
            generalize at0 Cw p = y at CW L1 L2 L3
            by_cases hy : y = 0
            · have hy1 : (y != 0) = false := by simp [hy]
              by_cases hpm : p < M
              · have hx1 : (x == 0) = false := by simpa using L2 hpm
                have hpI : (p : Int) < (M : Int) := by omega
                clear L1 L2 L3 hy
                go_wp2_with (first | (go_at_call_has 18 (Value.slice ae ne ce); refine CE.out.mono ?_; rintro e w' ⟨rfl, rfl⟩) | (go_at_call 18; refine CW.out.mono ?_; rintro e w' ⟨rfl, rfl⟩))
                go_roundw
                case rel => exact ⟨p + 1, by omega, by go_num, trivial⟩
                case measure => simp [intOf]; omega
              · have hxy : x = y := L3 (by omega)
                have hx2 : (x != y) = false := by simp [hxy]
                have hpI : ¬ ((p : Int) < (M : Int)) := by omega
                clear L1 L2 L3 hy hxy
                go_wp2_with (first | (go_at_call_has 18 (Value.slice ae ne ce); refine CE.out.mono ?_; rintro e w' ⟨rfl, rfl⟩) | (go_at_call 18; refine CW.out.mono ?_; rintro e w' ⟨rfl, rfl⟩))
                go_roundw
                case rel => exact ⟨p + 1, by omega, by go_num, trivial⟩
                case measure => simp [intOf]; omega
            · have hy1 : (y != 0) = true := by simpa using hy
              have hx1 : (x == 0) = false := by simpa using (L1 hy).1
              have hxy : ¬ (y < x) := by have := (L1 hy).2; omega
              by_cases hpm : p < M
              · have hpI : (p : Int) < (M : Int) := by omega
                clear L1 L2 L3 hy
                go_wp2_with (first | (go_at_call_has 18 (Value.slice ae ne ce); refine CE.out.mono ?_; rintro e w' ⟨rfl, rfl⟩) | (go_at_call 18; refine CW.out.mono ?_; rintro e w' ⟨rfl, rfl⟩))
                go_roundw
                case rel => exact ⟨p + 1, by omega, by go_num, trivial⟩
                case measure => simp [intOf]; omega
              · have hxe : x = y := L3 (by omega)
                have hx2 : (x != y) = false := by simp [hxe]
                have hpI : ¬ ((p : Int) < (M : Int)) := by omega
                clear L1 L2 L3 hy hxe
                go_wp2_with (first | (go_at_call_has 18 (Value.slice ae ne ce); refine CE.out.mono ?_; rintro e w' ⟨rfl, rfl⟩) | (go_at_call 18; refine CW.out.mono ?_; rintro e w' ⟨rfl, rfl⟩))
                go_roundw
                case rel => exact ⟨p + 1, by omega, by go_num, trivial⟩
                case measure => simp [intOf]; omega
          · have BF : Hid (Below w.heap.size w (w6.drewN q)) := ⟨BA6.out.os, BA6.out.tape, BA6.out.output, BA6.out.size, BA6.out.block⟩
            by_cases hM0 : M = 0
            · have hMI : ((M : Int) == 0) = true := by simp [hM0]
              have hl2 : (le != lw) = false := by simp [LL.out hM0]
              clear hM0
              cases ae with
              | none =>
                have he1 : (le != (X.length : Int)) = false := by simp [KLE.out rfl]
                cases aw with
                | none =>
                  have hw1 : (lw != (X.length : Int)) = false := by simp [KLW.out rfl]
                  clear LL KLE KLW LAW
                  go_wp2
                  go_ret
                  exact ⟨rfl, BF.out⟩
                | some d2 =>
                  clear LL KLE KLW LAW
                  go_wp2
                  go_ret
                  exact ⟨rfl, BF.out⟩
              | some d =>
                cases aw with
                | none =>
                  have hw1 : (lw != (X.length : Int)) = false := by simp [KLW.out rfl]
                  clear LL KLE KLW LAW
                  go_wp2
                  go_ret
                  exact ⟨rfl, BF.out⟩
                | some d2 =>
                  clear LL KLE KLW LAW
                  go_wp2
                  go_ret
                  exact ⟨rfl, BF.out⟩
            · have hMI : ((M : Int) == 0) = false := by simpa using hM0
              clear hM0
              cases ae with
              | none =>
                have he1 : (le != (X.length : Int)) = false := by simp [KLE.out rfl]
                cases aw with
                | none =>
                  have hw1 : (lw != (X.length : Int)) = false := by simp [KLW.out rfl]
                  clear LL KLE KLW LAW
                  go_wp2
                  go_ret
                  exact ⟨rfl, BF.out⟩
                | some d2 =>
                  clear LL KLE KLW LAW
                  go_wp2
                  go_ret
                  exact ⟨rfl, BF.out⟩
              | some d =>
                cases aw with
                | none =>
                  have hw1 : (lw != (X.length : Int)) = false := by simp [KLW.out rfl]
                  clear LL KLE KLW LAW
                  go_wp2
                  go_ret
                  exact ⟨rfl, BF.out⟩
                | some d2 =>
                  clear LL KLE KLW LAW
                  go_wp2
                  go_ret
                  exact ⟨rfl, BF.out⟩
end Go.Proofs.Qxb6616271a
