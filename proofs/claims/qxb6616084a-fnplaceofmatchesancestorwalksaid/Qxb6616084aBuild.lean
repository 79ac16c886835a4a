/-
  'ZZNewPattern', 'zzBuild'.
-/
import Derived.Test.Qxb6616084aRead
import Derived.OwnWalk
import Derived.Lib.SliceRun
import Derived.Laws.MakeOwn
import Derived.Deep.RegionWith
import Derived.Deep.CutBlock
namespace Go.Proofs.Qxb6616084a
set_option linter.unusedVariables false
open Go.RowKit
theorem info46 : (Try.prog.info? 46).map (fun i => (i.zero, i.size, i.bytes)) = some (some (.agg #[.string ⟨#[]⟩, .slice none 0 0, .bool false, .slice none 0 0, .slice none 0 0, .bool false]), 6, 104) := by kernel_rfl
theorem info52 : (Try.prog.info? 52).map (fun i => (i.zero, i.size, i.bytes)) = some (some (.agg #[.string ⟨#[]⟩, .bool false]), 2, 24) := by kernel_rfl
theorem made52 (n : Nat) (hn : n ≤ 1048576) : ∃ M : Array Value, M.size = n * 2 ∧ ∀ W : World, (Instr.makeSlice 41 (.int .i64 (n : Int)) (.int .i64 (n : Int))).run Try.prog W = .ok (.slice (some ⟨W.heap.size, 0, none⟩) n n) (W.alloc (.cells M 52)) := by
  obtain ⟨i0, hi, hz0, hz1, hz2⟩ := info_parts info52
  refine ⟨madeCells (Value.agg #[.string ⟨#[]⟩, .bool false]).cells ((n : Int).toNat * i0.size), by rw [size_madeCells, hz1, Int.toNat_natCast], fun W => ?_⟩
  have h := run_makeSlice (P := Try.prog) W 41 52 i0 _ Try.underlying41 hi hz0 .i64 .i64 (n : Int) (n : Int) (by omega) (by omega) (by rw [hz1]; omega) (by rw [hz2]; omega) (by omega)
  simpa using h
theorem made46 (n : Nat) (hn : n ≤ 1048576) : ∃ M : Array Value, M.size = n * 6 ∧ ∀ W : World, (Instr.makeSlice 27 (.int .i64 (n : Int)) (.int .i64 (n : Int))).run Try.prog W = .ok (.slice (some ⟨W.heap.size, 0, none⟩) n n) (W.alloc (.cells M 46)) := by
  obtain ⟨i0, hi, hz0, hz1, hz2⟩ := info_parts info46
  refine ⟨madeCells (Value.agg #[.string ⟨#[]⟩, .slice none 0 0, .bool false, .slice none 0 0, .slice none 0 0, .bool false]).cells ((n : Int).toNat * i0.size), by rw [size_madeCells, hz1, Int.toNat_natCast], fun W => ?_⟩
  have h := run_makeSlice (P := Try.prog) W 27 46 i0 _ Try.underlying27 hi hz0 .i64 .i64 (n : Int) (n : Int) (by omega) (by omega) (by rw [hz1]; omega) (by rw [hz2]; omega) (by omega)
  simpa using h
set_option maxHeartbeats 4000000 in
theorem newpat_any (b : ByteArray) (t : Bool) (w : World) :
    Calls Try.prog 15 #[.string b, .bool t] w fun e w' => e = .returned (.agg #[.string b, .bool t]) ∧ Below w.heap.size w w' := by
  go_enter Try.func15, Try.ntmps15
  go_wp2
  refine bodyPost_ret (v := .agg #[.string b, .bool t]) (by simp [results, Try.results15, go_sem]) rfl ⟨rfl, ?_⟩
  exact (Below.refl _ w).alloc (Nat.le_refl _) _
def BuildPost (ls : List Layer) (w : World) (e : Ending) (w' : World) : Prop := ∃ v, e = .returned v ∧ ReadsR w'.heap.size v ls w' ∧ Below w.heap.size w w'
theorem FillP.start {w : World} {M : Array Value} {n : Nat} (hM : M.size = n * 2) (ps : List Pat) : FillP w.heap.size n ps 0 (w.alloc (.cells M 52)) :=
  ⟨M, block_new w _, hM, fun k q hk => by omega⟩
theorem BuiltTo.start {w : World} {M : Array Value} {n : Nat} (hM : M.size = n * 6) (ls : List Layer) : BuiltTo w.heap.size n ls 0 (w.alloc (.cells M 46)) :=
  ⟨M, block_new w _, hM, fun k q hk => by omega⟩
theorem below_drew (B : Nat) (w : World) : Below B w w.drew := ⟨rfl, rfl, rfl, Nat.le_refl _, fun _ _ => rfl⟩
theorem fin6 {G n i : Nat} {ls : List Layer} {w0 w : World} {B : Nat} {l : Layer} {pv : Value} (h : BuiltTo G n ls i w) (hb : Below B w0 w) (hi : i < n) (hl : ls[i]? = some l)
    (hp : ReadsP w.heap.size pv l.pats w) (ha : Above G pv) (hG : B ≤ G) : BuiltTo G n ls (i + 1) (set6 w G (i * 6) l pv).drew ∧ Below B w0 (set6 w G (i * 6) l pv).drew := by
  have h1 := h.set hi hl hp ha
  have h2 := set6_below hb hG (i * 6) l pv
  generalize set6 w G (i * 6) l pv = W at h1 h2
  exact ⟨h1.below (below_drew _ _) (below_drew W.heap.size W).size, h2.trans (below_drew _ _)⟩
set_option maxHeartbeats 8000000 in
set_option maxRecDepth 100000 in
theorem build_any (v : Value) (ls : List Layer) (w : World) (hv : ReadsL w.heap.size v ls w) (hs : ls.length ≤ 1048576) (ho : ∀ l ∈ ls, OkLayer l) :
    Calls Try.prog 9 #[v] w fun e w' => BuildPost ls w e w' := by
  obtain ⟨a, n, cap, rfl, hn, hl⟩ := hv.at'
  have HL := hide hl
  have HO := hide ho
  rw [hl.len] at hs
  clear hl hv ho
  cases a with
  | none =>
    have hn0 : n = 0 := by
      cases n with
      | zero => rfl
      | succ m => obtain ⟨g, o, _, _, _, _, _, _, h, _⟩ := HL.out.cell 0 (by omega); simp at h
    subst hn0
    have hls : Hid (ls = []) := List.length_eq_zero_iff.1 HL.out.len
    have heq : ∀ W : World, (binOp .eql 22 (.slice none 0 cap) (.slice none 0 0)).run Try.prog W = .ok (.bool true) W := fun W => Lib.run_eql_slice_nil W 22 40 none 0 cap 0 0 Try.underlying22
    go_enter Try.func9, Try.ntmps9
    go_wp2
    go_ret
    exact ⟨_, rfl, by rw [hls.out]; exact ⟨none, rfl, fun i l h => by simp at h⟩, Below.refl _ _⟩
  | some ad =>
    obtain ⟨M, hM, hmk⟩ := made46 n hs
    have heq : ∀ W : World, (binOp .eql 22 (.slice (some ad) n cap) (.slice none 0 0)).run Try.prog W = .ok (.bool false) W := fun W => Lib.run_eql_slice_nil W 22 40 (some ad) n cap 0 0 Try.underlying22
    obtain ⟨w1, HW1⟩ : ∃ w1, Hid (w.alloc (.cells M 46) = w1) := ⟨_, rfl⟩
    have HB1 : Hid (Below w.heap.size w w1) := by rw [← HW1.out]; exact (Below.refl _ w).alloc (Nat.le_refl _) _
    have HF1 : Hid (BuiltTo w.heap.size n ls 0 w1) := by rw [← HW1.out]; exact BuiltTo.start hM ls
    go_enter Try.func9, Try.ntmps9
    go_wp2_with fail
    rw [HW1.out]
    go_loopw [4] (fun s4 wr => ∃ i : Nat, s4 = .int .i64 i ∧ i ≤ n ∧ Hid (BuiltTo w.heap.size n ls i wr) ∧ Hid (Below w.heap.size w wr)) (fun s4 _ => n - (intOf s4).toNat)
    case atStart => exact ⟨0, rfl, by omega, HF1, HB1⟩
    case round =>
      obtain ⟨i, rfl, hi, HF, HB⟩ := hrel
      obtain ⟨wo, hwo⟩ : ∃ wo, wo = wr := ⟨wr, rfl⟩
      subst hwo
      by_cases hlt : i < n
      · have hlt' : (i : Int) < (n : Int) := by omega
        obtain ⟨g, o, a', n', cap', nm, ps, iso, had, hg, he, c1, c2, c3, hn', hp, hr⟩ := (HL.out.below HB.out).cell i hlt
        cases had
        have HP := hide hp
        have HE := hide he
        have hnp : n' ≤ 1048576 := by rw [← hp.len]; exact (HO.out _ (List.mem_of_getElem? he)).2.1
        clear hp he hr
        have hne : ∀ W : World, (binOp .neq 38 (.slice a' n' cap') (.slice none 0 0)).run Try.prog W = .ok (.bool (!a'.isNone)) W := fun W => run_neq_slice_nil_any W 38 50 a' n' cap' 0 0 Try.underlying38
        go_upto_if 25 with fail
        go_cut [6, 7] from 26 to 48 (fun s6 s7 wx => ∃ a6 c6, s6 = .slice a6 n' c6 ∧ Hid (ReadsP wx.heap.size s6 ps wx) ∧ Hid (Above w.heap.size s6) ∧ Hid (Below wo.heap.size wo wx))
        case first =>
          cases a' with
          | none =>
            have hn0 : n' = 0 := by
              cases n' with
              | zero => rfl
              | succ m => obtain ⟨g, o, _, _, h, _⟩ := HP.out.cell 0 (by omega); simp at h
            subst hn0
            have hps : Hid (ps = []) := List.length_eq_zero_iff.1 HP.out.len
            go_wp2_with fail
            go_meet
            exact ⟨_, _, rfl, by rw [hps.out]; exact readsP_nil _ _, fun g o n cap h => by simp at h, Below.refl _ _⟩
          | some ad' =>
            clear hne
            obtain ⟨M2, hM2, hmk2⟩ := made52 n' hnp
            obtain ⟨w2, HW2⟩ : ∃ w2, Hid (wo.alloc (.cells M2 52) = w2) := ⟨_, rfl⟩
            have HB2 : Hid (Below wo.heap.size wo w2) := by rw [← HW2.out]; exact (Below.refl _ wo).alloc (Nat.le_refl _) _
            have HF2 : Hid (FillP wo.heap.size n' ps 0 w2) := by rw [← HW2.out]; exact FillP.start hM2 ps
            have hwr : w.heap.size ≤ wo.heap.size := HB.out.size
            obtain ⟨g6, HG6⟩ : ∃ g6, Hid (wo.heap.size = g6) := ⟨_, rfl⟩
            go_wp2_with fail
            rw [HW2.out]
            rw [HG6.out] at HF2
            rw [HG6.out]
            go_loopw [7] (fun s7 wx => ∃ j : Nat, s7 = .int .i64 j ∧ j ≤ n' ∧ Hid (FillP g6 n' ps j wx) ∧ Hid (Below wo.heap.size wo wx)) (fun s7 _ => n' - (intOf s7).toNat)
            case atStart => exact ⟨0, rfl, by omega, HF2, HB2⟩
            case round =>
              obtain ⟨j, rfl, hj, HFj, HBj⟩ := hrel
              by_cases hjn : j < n'
              · have hjn' : (j : Int) < (n' : Int) := by omega
                obtain ⟨g2, o2, b2, t2, had2, hg2, he2, d1, d2⟩ := (HP.out.below (HBj.out.mono hwr)).cell j hjn
                cases had2
                have HE2 := hide he2
                clear he2
                have NP := hide (fun W => newpat_any b2 t2 W)
                have fin : ∀ w3 : World, Hid (FillP g6 n' ps j w3) → Hid (Below wr.drew.heap.size wr.drew w3) → FillP g6 n' ps (j + 1) ((w3.setCell ⟨g6, j * 2, none⟩ (.string b2)).setCell ⟨g6, j * 2 + 1, none⟩ (.bool t2)) ∧ Below wo.heap.size wo ((w3.setCell ⟨g6, j * 2, none⟩ (.string b2)).setCell ⟨g6, j * 2 + 1, none⟩ (.bool t2)) := fun w3 hF3 hb3 => ⟨hF3.out.set hjn HE2.out, ((HBj.out.trans (Below.mono (show Below wr.heap.size wr w3 from ⟨hb3.out.os, hb3.out.tape, hb3.out.output, hb3.out.size, hb3.out.block⟩) HBj.out.size)).setCell (p := ⟨g6, j * 2, none⟩) (by rw [HG6.out]; exact Nat.le_refl _) _).setCell (p := ⟨g6, j * 2 + 1, none⟩) (by rw [HG6.out]; exact Nat.le_refl _) _⟩
                have FIN := hide fin
                clear fin
                go_wp2_with fail
                go_region_with (
                  go_at_call 15
                  refine (NP.out _).mono ?_
                  rintro e w3 ⟨rfl, hb3⟩
                  have hF3 := hide (HFj.out.of_heap (hb3.block g6 (lt_of_block HFj.out.choose_spec.1)))
                  replace hb3 := hide hb3
                  obtain ⟨⟨v1, k1⟩, ⟨v2, k2⟩, k3, k4⟩ := hF3.out.cell hjn)
                all_goals (
                  go_wp2_with fail
                  refine ⟨?_, ?_⟩
                  · refine ⟨_, _, _, _, _, _, _, _, _, _, _, _, _, _, _, _, _, _, _, _, _, ?_, rfl⟩
                    exact ⟨j + 1, by go_num, by omega, (FIN.out _ hF3 hb3).1, (FIN.out _ hF3 hb3).2⟩
                  · simp [intOf]; omega)
              · obtain rfl : j = n' := by omega
                go_wp2_with fail
                go_meet
                refine ⟨_, _, rfl, HFj.out.reads HP.out.len (by unfold maxLen; omega), ?_, HBj⟩
                intro g o n cap h
                simp at h
                have := HF.out.choose_spec.1
                have := lt_of_block this
                have := HG6.out
                omega
        case rest =>
        obtain ⟨a6, c6, rfl, HR6, HA6, HB6⟩ := hcut
        have HF6 := hide (HF.out.below HB6.out HB6.out.size)
        have q1 := HB6.out.cell (p := ⟨g, o + i * 3, none⟩) (Nat.lt_of_lt_of_le hg HB.out.size)
        have q3 := HB6.out.cell (p := ⟨g, o + i * 3 + 2, none⟩) (Nat.lt_of_lt_of_le hg HB.out.size)
        rw [c1] at q1
        rw [c3] at q3
        obtain ⟨⟨x0, k0⟩, f0⟩ := HF6.out.cell hlt 0 (by omega)
        obtain ⟨⟨x1, k1⟩, f1⟩ := HF6.out.cell hlt 1 (by omega)
        obtain ⟨⟨x2, k2⟩, f2⟩ := HF6.out.cell hlt 2 (by omega)
        obtain ⟨⟨x3, k3⟩, f3⟩ := HF6.out.cell hlt 3 (by omega)
        obtain ⟨⟨x4, k4⟩, f4⟩ := HF6.out.cell hlt 4 (by omega)
        obtain ⟨⟨x5, k5⟩, f5⟩ := HF6.out.cell hlt 5 (by omega)
        rw [Nat.add_zero] at k0 f0
        have HBw := hide (HB.out.trans (Below.mono HB6.out HB.out.size))
        have fin := fin6 HF6.out HBw.out hlt HE.out HR6.out HA6.out (Nat.le_refl _)
        simp only [set6] at fin
        have FIN := hide fin
        clear fin
        go_wp2_with fail
        go_region
        go_wp2_with fail
        go_roundw
        case rel => exact ⟨i + 1, by go_num, by omega, FIN.out.1, FIN.out.2⟩
        case measure => simp [intOf]; omega
      · obtain rfl : i = n := by omega
        go_wp2
        go_ret
        exact ⟨_, rfl, HF.out.reads HL.out.len, HB.out⟩
end Go.Proofs.Qxb6616084a
