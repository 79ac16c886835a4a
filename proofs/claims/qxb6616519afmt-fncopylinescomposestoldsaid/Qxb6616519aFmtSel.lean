/-
  The first law.
-/
import Derived.Test.Qxb6616519aFmtZz
import Derived.Test.Qxb6616519aFmtPlain
import Derived.Lib.AppendStr
import Derived.Lib.BufferRead
import Derived.Deep.CutRange
import Derived.Deep.CutBlock
namespace Go.Proofs.Qxb6616519aFmt
set_option linter.unusedVariables false
open Go.RowKit Go.Extern.Stop Go.Stop Go.Extern
def intsV (l : List Int) : List Value := l.map (Value.int .i64)
theorem intsV_one (l : List Int) : ∀ v ∈ intsV l, v.oneCell' = true := by
  intro v hv
  simp only [intsV, List.mem_map] at hv
  obtain ⟨c, _, rfl⟩ := hv
  rfl
theorem intsV_get (l : List Int) (j : Nat) (h : j < l.length) : (intsV l)[j]? = some (.int .i64 (l.getD j 0)) := by
  rw [intsV, List.getElem?_map, List.getElem?_eq_getElem h, List.getD, List.getElem?_eq_getElem h]; rfl
theorem Tryf.info3 : (Tryf.prog.info? 3).map (fun i => (i.zero, i.size, i.bytes)) = some (some (.int .i64 0), 1, 8) := by kernel_rfl
theorem Tryf.size3 : (Tryf.prog.info? 3).map (·.size) = some 1 := by kernel_rfl
theorem made_ints (n : Nat) (hn : n ≤ 1048576) : ∃ M : Array Value, M.size = n ∧ ∀ W : World, (Instr.makeSlice 22 (.int .i64 (n : Int)) (.int .i64 (n : Int))).run Tryf.prog W = .ok (.slice (some ⟨W.heap.size, 0, none⟩) n n) (W.alloc (.cells M 3)) := by
  obtain ⟨i0, hi, hz0, hz1, hz2⟩ := info_parts Tryf.info3
  refine ⟨madeCells (Value.int .i64 0).cells ((n : Int).toNat * i0.size), by rw [size_madeCells, hz1]; simp, fun W => ?_⟩
  have h := run_makeSlice (P := Tryf.prog) W 22 3 i0 (.int .i64 0) Tryf.underlying22 hi hz0 .i64 .i64 (n : Int) n (by omega) (by omega) (by rw [hz1]; omega) (by rw [hz2]; omega) (by omega)
  simpa using h
theorem EvAt.up {B B' : Nat} {v : Value} {ev : List Int} {w : World} (h : EvAt B v ev w) (hb : B ≤ B') : EvAt B' v ev w := by
  obtain ⟨a, cap, h1, h2, h3, h4⟩ := h
  refine ⟨a, cap, h1, h2, h3, fun j hj => ?_⟩
  obtain ⟨E, o, e1, e2, e3⟩ := h4 j hj
  exact ⟨E, o, e1, by omega, e3⟩
theorem Errs.up {B B' : Nat} {aE aF : Addr} {w : World} (h : Errs B aE aF w) (hb : B ≤ B') : Errs B' aE aF w :=
  ⟨h.cE, h.cF, h.ne, h.bE, h.bF, Nat.lt_of_lt_of_le h.lE hb, Nat.lt_of_lt_of_le h.lF hb, Nat.le_trans h.two hb⟩
/-- The copy that is made first. -/
theorem copied_ints {w : World} {ad : Addr} {cap n : Nat} {ev : List Int} {M : Array Value} (hv : EvAt w.heap.size (.slice (some ad) n cap) ev w) (hn : ev.length = n) (hM : M.size = n) (hm : n ≤ maxLen) :
    ∃ W2, (Builtin.copy_ #[22, 22] 3 #[.slice (some ⟨w.heap.size, 0, none⟩) n n, .slice (some ad) n cap]).run Tryf.prog (w.alloc (.cells M 3)) = .ok (goInt (n : Int)) W2 ∧ EvAt W2.heap.size (.slice (some ⟨w.heap.size, 0, none⟩) n n) ev W2 ∧ Below w.heap.size w W2 := by
  obtain ⟨a, cap', e, h2, h3, h4⟩ := hv
  cases e
  have hl : (intsV ev).length = ev.length := by simp [intsV]
  have hr := run_copy_row (P := Tryf.prog) (w.alloc (.cells M 3)) 22 22 3 3 w.heap.size 0 ev.length ev.length ad ev.length cap M 3 (intsV ev) Tryf.underlying22 Tryf.size3 (block_new w _) (by rw [hl]; show _ = min _ _; omega) (fun j v hj => by
    have hj2 : j < ev.length := by have := (List.getElem?_eq_some_iff.1 hj).1; omega
    obtain ⟨E, o, e1, e2, e3⟩ := h4 j hj2
    cases e1
    rw [intsV_get ev j hj2] at hj
    cases hj
    rw [addr_add, World.cell?_of_block (a := ⟨E, o + j, none⟩) (Below.heap_alloc w _ E e2)]
    exact e3) (by rw [hl, hM]; omega) (intsV_one ev)
  rw [hl] at hr
  have hg := setRow_heap (w.alloc (.cells M 3)) w.heap.size M (M.toList.take 0 ++ intsV ev ++ M.toList.drop (0 + ev.length)).toArray 3 (0, 0) (block_new w _)
  refine ⟨_, hr, ⟨_, _, rfl, Nat.le_refl _, hm, fun j hj => ⟨w.heap.size, 0, rfl, by simp, ?_⟩⟩, below_setRow ((Below.refl _ w).alloc (Nat.le_refl _) _) (Nat.le_refl _) _⟩
  rw [cell_at hg, ← Array.getElem?_toList]
  simp only [List.take_zero, List.nil_append, Nat.zero_add]
  rw [List.getElem?_append_left (by rw [hl]; exact hj)]
  exact intsV_get ev j hj
theorem own_strs {w : World} {B n : Nat} {v : Value} {ls : List (List UInt8)} (h : w.ownsRow B 9 1 v n (strV ls)) : ∃ a c, v = .slice a n c ∧ n ≤ c ∧ c ≤ maxLen ∧ ls.length = n ∧ ∀ j, j < n → ∃ g, a = some ⟨g, 0, none⟩ ∧ g < w.heap.size ∧ w.cell? ⟨g, j, none⟩ = some (.string ⟨(ls.getD j []).toArray⟩) := by
  have hl : ls.length = n := by have := h.1; simpa [strV] using this
  rcases h.2 with ⟨rfl, rfl⟩ | ⟨g, cap, cur, rfl, e1, e2, e3, e4, e5, e6⟩
  · exact ⟨none, 0, rfl, by omega, by omega, hl, fun j hj => by omega⟩
  · refine ⟨_, cap, rfl, e3, e4, hl, fun j hj => ⟨g, rfl, lt_of_block e2, ?_⟩⟩
    rw [cell_at e2, ← Array.getElem?_toList]
    have : (strV ls)[j]? = some (.string ⟨(ls.getD j []).toArray⟩) := by
      rw [strV, List.getElem?_map, List.getElem?_eq_getElem (by omega), List.getD, List.getElem?_eq_getElem (by omega)]; rfl
    rw [← e6, List.getElem?_take] at this
    split at this
    · exact this
    · cases this
theorem mem_le_sum : ∀ (ls : List (List UInt8)) (k : Nat), (ls.getD k []).length ≤ (ls.map List.length).sum
  | [], k => by simp
  | Y :: ls, 0 => by simp
  | Y :: ls, k + 1 => by
    have := mem_le_sum ls k
    simp only [List.getD_cons_succ, List.map_cons, List.sum_cons]
    omega
theorem pick_snoc (all : List (List UInt8)) (ev : List Int) (i : Nat) (h : i < ev.length) : pick all (ev.take (i + 1)) = pick all (ev.take i) ++ all.getD (ev.getD i 0).toNat [] := by
  unfold pick
  have e : ev.getD i 0 = ev[i] := by simp [List.getD, h]
  rw [List.take_add_one, List.map_append, List.flatten_append, List.getElem?_eq_getElem h, e]
  simp
theorem pick_len (all : List (List UInt8)) (ev : List Int) (M : Nat) (h : ∀ k, (all.getD k []).length ≤ M) : (pick all ev).length ≤ ev.length * M := by
  induction ev with
  | nil => simp [pick]
  | cons e es ih =>
    have h1 : pick all (e :: es) = all.getD e.toNat [] ++ pick all es := by simp [pick]
    rw [h1, List.length_append, List.length_cons, Nat.add_mul, Nat.one_mul]
    have := h e.toNat
    omega
theorem strCells_eq (Y : List UInt8) : Lib.strCells ⟨Y.toArray⟩ = bytesV Y := by simp [Lib.strCells, bytesV]
theorem own_string {w w' : World} {B : Nat} {v : Value} {X : List UInt8} (h : w.ownsRow B 5 1 v X.length (bytesV X)) (hb : Below w.heap.size w w') : (convert 26 9 v).run Tryf.prog w' = .ok (.string ⟨X.toArray⟩) w' := by
  rcases h.2 with ⟨rfl, hx⟩ | ⟨g, cap, cur, rfl, e1, e2, e3, e4, e5, e6⟩
  · have : X = [] := List.length_eq_zero_iff.1 hx
    subst this
    exact Lib.run_convert_nil_bytes w' _ _ _ 0 Tryf.underlying26 Tryf.underlying5 Tryf.underlying9
  · exact run_convert_bytes_back (P := Tryf.prog) w' 26 9 5 ⟨g, 0, none⟩ cap X Tryf.underlying26 Tryf.underlying5 Tryf.underlying9 (Lib.bytes_of_row (w := w') ((hb.block g (lt_of_block e2)).trans e2) (by rw [Nat.mul_one] at e6; exact e6))
theorem EvAt.cells {B n c : Nat} {a : Option Addr} {ev : List Int} {w : World} (h : EvAt B (.slice a n c) ev w) : ∀ j, j < n → ∃ E o, a = some ⟨E, o, none⟩ ∧ E < B ∧ w.cell? ⟨E, o + j, none⟩ = some (.int .i64 (ev.getD j 0)) := by
  obtain ⟨a', c', e, _, _, h4⟩ := h
  cases e
  exact h4
set_option maxHeartbeats 8000000 in
set_option maxRecDepth 100000 in
theorem sel_any (F : Interp) (T : ByteArray) (v : Value) (ev : List Int) (aE aF : Addr) (w : World) (hF : F.answers w.tape) (hv : EvAt w.heap.size v ev w) (hT : T.size ≤ maxLen) (hE : Errs w.heap.size aE aF w) :
    Calls Tryf.prog 3 #[.string T, v] w fun e w' => e = .returned (.bool true) ∧ Below w.heap.size w w' := by
  obtain ⟨av, cv, rfl, hlc, hcm, -⟩ := id hv
  obtain ⟨ln, hln⟩ : ∃ ln, ev.length = ln := ⟨_, rfl⟩
  rw [hln] at hv hlc ⊢
  have hnm : ln ≤ maxLen := by omega
  have G1 := hide (bytes2 T av ln cv w hT hnm)
  have HV := hide hv
  have HE := hide hE
  have HF := hide hF
  have HLN := hide hln
  clear hv hE hF hln
  have hT' : T.size ≤ 9223372036854775807 := by unfold maxLen at hT; omega
  have hln' : ln ≤ 9223372036854775807 := by unfold maxLen at hnm; omega
  go_enter Tryf.func3, Tryf.ntmps3
  go_upto_if 24 with (go_at_call 5; refine G1.out.mono ?_; rintro e w' ⟨b, rfl, rfl⟩)
  · go_ret
    exact ⟨rfl, Below.refl _ _⟩
  · go_ret
    exact ⟨rfl, Below.refl _ _⟩
  · go_ret
    exact ⟨rfl, Below.refl _ _⟩
  have hT6 : T.size ≤ 1048576 := by omega
  have hl7 : ln ≤ 65536 := by omega
  clear hT' hln' G1
  go_cut [1, 5] from 13 to 31 (fun s1 s5 wx => ∃ a1 c1, s1 = .slice a1 ln c1 ∧ Hid (EvAt wx.heap.size (.slice a1 ln c1) ev wx) ∧ Hid (Below w.heap.size w wx))
  case first =>
    cases av with
    | none =>
      go_wp2_with fail
      go_meet
      exact ⟨_, _, rfl, HV, Below.refl _ _⟩
    | some ad =>
      obtain ⟨M, hM, hmk⟩ := made_ints ln (by omega)
      obtain ⟨W2, hr, hE2, hB2⟩ := copied_ints HV.out HLN.out hM hnm
      have HR := hide hr
      have HE2 := hide hE2
      have HB2 := hide hB2
      clear hr hE2 hB2
      go_wp2_with fail
      rw [HR.out]
      simp only [Result.andThen]
      rw [Oper.upon_value]
      go_wp2_with fail
      go_meet
      exact ⟨_, _, rfl, HE2, HB2⟩
  case rest =>
  obtain ⟨a1, c1, rfl, HV1, HB1⟩ := hcut
  clear HV
  have SP := hide (split_any T wc hT6)
  go_upto_region 12 with (go_at_call 6; refine SP.out.mono ?_; rintro e w2 ⟨v6, rfl, ho6, hb2⟩; replace ho6 := hide ho6; replace hb2 := hide hb2)
  obtain ⟨a6, c6, rfl, hc6, hcm6, hN6, hcell6⟩ := own_strs ho6.out
  have HV2 := hide ((HV1.out.below hb2.out).up hb2.out.size)
  have HB2 := hide (HB1.out.trans (hb2.out.mono HB1.out.size))
  obtain ⟨N, HNl⟩ : ∃ N, Hid ((lines T.data.toList).length = N) := ⟨_, rfl⟩
  rw [HNl.out] at hc6 hcell6
  rw [HNl.out]
  have hNT : N ≤ 1048576 := by
    have := lines_len T.data.toList
    rw [HNl.out] at this
    have e : T.data.toList.length = T.size := by rw [Array.length_toList]; rfl
    omega
  have HC6 := hide hcell6
  have HO6 := ho6
  clear hcell6 hN6 ho6 SP HV1 hcm6
  go_upto_block 0 with fail
  go_cut [7] from 34 to 62 (fun s7 wx => ∃ m : Nat, s7 = .int .i64 m ∧ Hid (ascL N 0 ev = m) ∧ Hid (∀ j, j < m → okAt N ev j) ∧ wx = w2)
  case first =>
    go_wp2_with fail
    go_loopw [7] (fun s7 wr => ∃ m : Nat, s7 = .int .i64 m ∧ m ≤ ln ∧ Hid (∀ j, j < m → okAt N ev j) ∧ wr = w2) (fun s7 _ => ln - (intOf s7).toNat)
    case atStart => exact ⟨0, rfl, by omega, fun j hj => by omega, rfl⟩
    case round =>
      obtain ⟨m, rfl, hmn, HOK, rfl⟩ := hrel
      by_cases hlt : m < ln
      · have hcells := HV2.out.cells
        obtain ⟨E, o, rfl, hEB, hce⟩ := hcells m hlt
        obtain ⟨x, HX⟩ : ∃ x, Hid (ev.getD m 0 = x) := ⟨_, rfl⟩
        rw [HX.out] at hce
        have hlt' : (m : Int) < (ln : Int) := by omega
        by_cases hneg : x < 0
        · have EQ : Hid (ascL N 0 ev = m) := ascL_eq N ev 0 m (by omega) (by rw [HLN.out]; omega) HOK.out (.inr (fun h => by
            rw [HX.out] at h
            rcases h.1 with h1 | h1
            · have h2 := HOK.out (m - 1) (by omega)
              have h3 := h2.1
              rcases h.2.2 with h4 | h4 <;> omega
            · omega))
          have hneg' : decide (x < 0) = true := by simpa using hneg
          clear hcells
          go_wp2_with fail
          go_meet
          exact ⟨m, rfl, EQ, HOK, by trivial⟩
        · have hneg' : decide (x < 0) = false := by simpa using hneg
          by_cases hbig : (N : Int) ≤ x
          · have EQ : Hid (ascL N 0 ev = m) := ascL_eq N ev 0 m (by omega) (by rw [HLN.out]; omega) HOK.out (.inr (fun h => by
              rw [HX.out] at h
              have := h.2.1
              omega))
            have hbig' : decide ((N : Int) ≤ x) = true := by simpa using hbig
            clear hcells
            go_wp2_with fail
            go_meet
            exact ⟨m, rfl, EQ, HOK, by trivial⟩
          · have hbig' : decide ((N : Int) ≤ x) = false := by simpa using hbig
            by_cases hm0 : m = 0
            · subst hm0
              rw [Nat.add_zero] at hce
              have OK2 : Hid (∀ j, j < 0 + 1 → okAt N ev j) := fun j hj => by
                obtain rfl : j = 0 := by omega
                exact ⟨by rw [HX.out]; omega, by rw [HX.out]; omega, .inl rfl⟩
              clear hcells HOK
              go_wp2
              go_roundw
              case rel => exact ⟨0 + 1, by go_num, by omega, OK2, by trivial⟩
              case measure => simp [intOf]; omega
            · obtain ⟨E2, o2, e2, _, hce2⟩ := hcells (m - 1) (by omega)
              cases e2
              obtain ⟨y, HY⟩ : ∃ y, Hid (ev.getD (m - 1) 0 = y) := ⟨_, rfl⟩
              rw [HY.out] at hce2
              have hmg : decide ((0 : Int) < (m : Int)) = true := by simp; omega
              by_cases hasc : x ≤ y
              · have EQ : Hid (ascL N 0 ev = m) := ascL_eq N ev 0 m (by omega) (by rw [HLN.out]; omega) HOK.out (.inr (fun h => by
                  rw [HX.out, HY.out] at h
                  rcases h.2.2 with h4 | h4 <;> omega))
                have hasc' : decide (x ≤ y) = true := by simpa using hasc
                clear hcells
                go_wp2_with fail
                go_meet
                exact ⟨m, rfl, EQ, HOK, by trivial⟩
              · have hasc' : decide (x ≤ y) = false := by simpa using hasc
                have OK2 : Hid (∀ j, j < m + 1 → okAt N ev j) := fun j hj => by
                  by_cases hjm : j < m
                  · exact HOK.out j hjm
                  · obtain rfl : j = m := by omega
                    exact ⟨by rw [HX.out]; omega, by rw [HX.out]; omega, .inr (by rw [HX.out, HY.out]; omega)⟩
                clear hcells HOK
                go_wp2
                go_roundw
                case rel => exact ⟨m + 1, by go_num, by omega, OK2, by trivial⟩
                case measure => simp [intOf]; omega
      · obtain rfl : m = ln := by omega
        have EQ : Hid (ascL N 0 ev = m) := ascL_eq N ev 0 m (by omega) (by rw [HLN.out]; omega) HOK.out (.inl HLN.out.symm)
        go_wp2_with fail
        go_meet
        exact ⟨m, rfl, EQ, HOK, by trivial⟩
  case rest =>
  obtain ⟨m, rfl, HM, HOK, rfl⟩ := hcut
  have hmn : m ≤ ln := by rw [← HM.out, ← HLN.out]; exact ascL_le _ _ _
  have hb5 : Hid (∀ i, i ≤ m → (pick (lines T.data.toList) (ev.take i)).length ≤ 68719476736 ∧ ∀ k, ((lines T.data.toList).getD k []).length ≤ 1048576) := fun i hi => by
    have hk : ∀ k, ((lines T.data.toList).getD k []).length ≤ 1048576 := fun k => by
      have h1 := mem_le_sum (lines T.data.toList) k
      rw [lines_sum] at h1
      have e : T.data.toList.length = T.size := by rw [Array.length_toList]; rfl
      omega
    refine ⟨?_, hk⟩
    have h1 := pick_len (lines T.data.toList) (ev.take i) 1048576 hk
    rw [List.length_take] at h1
    have h2 : min i ev.length * 1048576 ≤ 65536 * 1048576 := Nat.mul_le_mul_right _ (by omega)
    omega
  obtain ⟨i5, hi5, hz50, hz51, hz52⟩ := info_parts Tryf.info5
  generalize hLS : lines T.data.toList = ls at *
  go_wp2_with fail
  go_loopw [9, 10] (fun s9 s10 wr => ∃ i : Nat, s10 = .int .i64 i ∧ i ≤ m ∧ Hid (wr.ownsRow wc.heap.size 5 1 s9 (pick ls (ev.take i)).length (bytesV (pick ls (ev.take i)))) ∧ Hid (Below wc.heap.size wc wr)) (fun _ s10 _ => m - (intOf s10).toNat)
  case atStart => exact ⟨0, rfl, by omega, hide (by simpa [pick, bytesV] using World.ownsRow_nil wc wc.heap.size 5 1), Below.refl _ _⟩
  case round =>
    obtain ⟨i, rfl, him, HOi, HBi⟩ := hrel
    by_cases hlt : i < m
    · obtain ⟨E, o, rfl, hEB, hce⟩ := HV2.out.cells i (by omega)
      obtain ⟨hx0, hxN, -⟩ := HOK.out i hlt
      obtain ⟨k, hk⟩ : ∃ k : Nat, ev.getD i 0 = k := ⟨(ev.getD i 0).toNat, by omega⟩
      have HKK := hide hk
      rw [hk] at hce hxN hx0
      obtain ⟨g6, rfl, hg6, hc6k⟩ := HC6.out k (by omega)
      have hce' : wr.cell? ⟨E, o + i, none⟩ = some (.int .i64 k) := by rw [HBi.out.cell (p := ⟨E, o + i, none⟩) hEB]; exact hce
      have hc6' : wr.cell? ⟨g6, k, none⟩ = some (.string ⟨(ls.getD k []).toArray⟩) := by rw [HBi.out.cell (p := ⟨g6, k, none⟩) hg6]; exact hc6k
      have hlt' : decide ((i : Int) < (m : Int)) = true := by simp; omega
      have hlt2 : (i : Int) < (ln : Int) := by omega
      have hkN : (k : Int) < (N : Int) := by omega
      have HPS : Hid (pick ls (ev.take (i + 1)) = pick ls (ev.take i) ++ ls.getD k []) := by
        show _ = _
        rw [pick_snoc ls ev i (by rw [HLN.out]; omega), hk]; rfl
      have hbz := (hb5.out i him)
      have hb1 := hbz.1
      have hb2' := hbz.2 k
      have hsz : (⟨(ls.getD k []).toArray⟩ : ByteArray).size = (ls.getD k []).length := by simp [ByteArray.size]
      have HSZ := hide hsz
      have HB1' := hide hb1
      have HB2' := hide hb2'
      clear hbz hk hce hc6k hb1 hb2' hsz
      generalize ls.getD k [] = Y at *
      go_wp2_with (at_builtin; refine Lib.wpList_append_own_string _ rfl (.tmp 68) (.tmp 75) 26 9 rfl wc.heap.size 5 i5 Tryf.underlying26 Tryf.underlying9 hi5 hz50 hz51 hz52 u9 (pick ls (ev.take i)).length (bytesV (pick ls (ev.take i))) ?a1 HOi.out ⟨Y.toArray⟩ ?a2 ?a3 ?a4 ?a5 ?_)
      case a1 => rfl
      case a2 => rfl
      case a3 => rw [HSZ.out]; have := HB1'.out; have := HB2'.out; unfold maxLen; omega
      case a4 => rw [HSZ.out]; have := HB1'.out; have := HB2'.out; omega
      case a5 => exact HBi.out.size
      intro v9 w9 ho9 hg9 _
      replace ho9 := hide ho9
      replace hg9 := hide hg9
      go_wp2
      go_roundw
      case rel =>
        refine ⟨i + 1, by go_num, by omega, ?_, hide (HBi.out.grown hg9.out HBi.out.size (fun k e => (HOi.out.lt k e).1))⟩
        refine hide ?_
        have h1 := ho9.out
        try rw [HSZ.out] at h1
        rw [strCells_eq, ← bytesV_append, ← List.length_append] at h1
        rw [HPS.out]
        exact h1
      case measure => simp [intOf]; omega
    · obtain rfl : i = m := by omega
      have hge : decide ((i : Int) < (i : Int)) = false := by simp
      have HBw := hide (HB2.out.trans (HBi.out.mono HB2.out.size))
      have ZZ := hide (zz_any F (.slice a1 ln c1) T ev aE aF (ev.drop i, pick ls (ev.take i)) wr (by rw [HBw.out.tape]; exact HF.out) ((HV2.out.below HBi.out).up HBi.out.size) hT6 (by rw [HLN.out]; omega) ((HE.out.below HBw.out).up HBw.out.size) (by rw [copied_lines, hLS, HNl.out, HM.out]))
      have hfl : (!(ev.drop i).isEmpty) = decide (i < ln) := by
        have hd : (ev.drop i).length = ln - i := by rw [List.length_drop, HLN.out]
        by_cases h : i < ln
        · have : ev.drop i ≠ [] := fun e => by rw [e] at hd; simp at hd; omega
          cases hq : ev.drop i with
          | nil => exact absurd hq this
          | cons _ _ => simp; omega
        · have : ev.drop i = [] := List.length_eq_zero_iff.1 (by omega)
          rw [this]
          simp; omega
      have ZZ2 : Hid (Calls Tryf.prog 7 #[.string T, .slice a1 ln c1] wr fun e w' => e = .returned (.tuple #[.string ⟨(pick ls (ev.take i)).toArray⟩, .bool (decide (i < ln))]) ∧ Below wr.heap.size wr w') := by
        refine hide (ZZ.out.mono (fun e w' h => ⟨?_, h.2⟩))
        rw [h.1, ← hfl]
      clear ZZ hfl
      generalize hbl : decide (i < ln) = bl at ZZ2
      have HBLe := hide hbl
      obtain ⟨ST, hST⟩ : ∃ ST : ByteArray, ST = ⟨(pick ls (ev.take i)).toArray⟩ := ⟨_, rfl⟩
      rw [← hST] at ZZ2
      have HST := hide hST
      clear hST
      go_upto_region 24 with (go_at_call 7; refine ZZ2.out.mono ?_; rintro e w4 ⟨rfl, hb4⟩; replace hb4 := hide hb4)
      have hcv : (convert 26 9 u9).run Tryf.prog w4 = .ok (.string ST) w4 := by rw [HST.out]; exact own_string HOi.out hb4.out
      have hbb : (bl == bl) = true := by simp
      clear ZZ2
      go_wp2
      go_ret
      refine ⟨by first | rfl | simp, HBw.out.trans (hb4.out.mono HBw.out.size)⟩
end Go.Proofs.Qxb6616519aFmt
