/-
  'CopyLines', 'ZZCopyLines'.
-/
import Derived.Test.Qxb6616519aFmtEach
import Derived.Test.Qxb6616519aFmtStops
import Derived.Deep.RegionWith
namespace Go.Proofs.Qxb6616519aFmt
set_option linter.unusedVariables false
open Go.RowKit Go.Extern.Stop Go.Stop Go.Extern
set_option maxHeartbeats 8000000 in
set_option maxRecDepth 100000 in
theorem copy_any (F : Interp) (B b S : Nat) (v : Value) (T : ByteArray) (ev0 : List Int) (aE aF : Addr) (fin : List Int × List UInt8) (w : World) (hF : F.answers w.tape) (hb : BufAt b none [] w) (hS : StrAt S T 0 w) (hBb : B ≤ b) (hBS : B ≤ S) (hv : EvAt B v ev0 w) (hT : T.size ≤ 1048576) (hev : ev0.length ≤ 1048576) (hE : Errs B aE aF w)
    (hfin : runL 0 (lines T.data.toList) (ev0, []) = fin) :
    Calls Tryf.prog 10 #[.iface 38 (.pointer (some ⟨b, 0, none⟩)), .iface 39 (.pointer (some ⟨S, 0, none⟩)), v] w fun e w' => ∃ ve g, e = .returned ve ∧ (fin.1 = [] → ve = .nilIface) ∧ (fin.1 ≠ [] → ∃ a, ve = .iface 67 (.pointer (some a))) ∧ BufAt b g fin.2 w' ∧ Below B w w' := by
  obtain ⟨av, cv, rfl, -, -, -⟩ := id hv
  have hbw : b < w.heap.size := by obtain ⟨⟨cs, h⟩, _⟩ := buf_tag hb; exact lt_of_block h
  have hSw : S < w.heap.size := by obtain ⟨pr, h⟩ := hS; exact lt_of_block h
  have hBw : B ≤ w.heap.size := by omega
  obtain ⟨w3, HW3⟩ : ∃ w3, Hid (w3 = ((w.alloc (.cells #[.iface 38 (.pointer (some ⟨b, 0, none⟩))] 43)).alloc (.cells #[.slice av ev0.length cv] 22)).alloc (.cells #[.int .i64 0] 3)) := ⟨_, rfl⟩
  have hB3 : Below w.heap.size w w3 := by rw [HW3.out]; exact (((Below.refl _ w).alloc (Nat.le_refl _) _).alloc (by simp) _).alloc (by simp; omega) _
  have EA := hide (each_any B (w.heap.size + 1 + 1) (w.heap.size + 1) w.heap.size b S none T ev0 aE aF fin w3 ⟨by rw [HW3.out]; exact (by simpa using block_new ((w.alloc (.cells #[.iface 38 (.pointer (some ⟨b, 0, none⟩))] 43)).alloc (.cells #[.slice av ev0.length cv] 22)) (.cells #[.int .i64 0] 3 (0, 0))),
      ⟨.slice av ev0.length cv, by rw [HW3.out, Below.heap_alloc _ _ _ (by simp)]; exact (by simpa using block_new (w.alloc (.cells #[.iface 38 (.pointer (some ⟨b, 0, none⟩))] 43)) (.cells #[.slice av ev0.length cv] 22 (0, 0))), hv.below (hB3.mono hBw)⟩,
      by rw [HW3.out, Below.heap_alloc _ _ _ (by simp; omega), Below.heap_alloc _ _ _ (by simp)]; exact block_new w _, hb.kept (hB3.block b hbw) (fun q hq => by cases hq), by omega, by omega, by omega, hBb, fun q hq => by cases hq⟩
    (by obtain ⟨pr, h⟩ := hS; exact ⟨pr, (hB3.block S hSw).trans h⟩) hBS hT hev (hE.below (hB3.mono hBw)) hfin rfl)
  have HB3 := hide (hB3.mono hBw)
  have HT : Hid (w3.tape = w.tape) := hB3.tape
  have HF := hide hF
  have EA2 := EA.out
  have HB3' := HB3.out
  have HT' := HT.out
  rw [HW3.out] at EA2 HB3' HT'
  replace EA2 := hide EA2
  replace HB3' := hide HB3'
  replace HT' := hide HT'
  clear hb hS hv hE hfin hF hB3 EA HB3 HT HW3
  go_enter Tryf.func10, Tryf.ntmps10
  go_upto_region 5 with (go_at_call 13; refine EA2.out.mono ?_; rintro e w4 ⟨rfl, g4, n4, hC4, hB4, hn4⟩; replace hC4 := hide hC4; replace hB4 := hide hB4)
  obtain ⟨v4, hce, hev4⟩ := hC4.out.ce
  obtain ⟨a4, c4, rfl, hlc4, hcm4, hcells⟩ := id hev4
  have k5 : w4.cell? ⟨w.heap.size + 1, 0, none⟩ = some (.slice a4 fin.1.length c4) := by rw [cell_at hce]; rfl
  have k7 : w4.cell? ⟨w.heap.size + 1 + 1, 0, none⟩ = some (.int .i64 n4) := by rw [cell_at hC4.out.cn]; rfl
  have HBL := hide (HB3'.out.trans hB4.out)
  by_cases hf : fin.1 = []
  · have hfl : fin.1.length = 0 := by rw [hf]; rfl
    rw [hfl] at k5
    clear hce hcells hev4 hlc4
    go_wp2
    go_ret
    exact ⟨_, g4, rfl, fun _ => rfl, fun h => absurd hf h, hC4.out.buf, HBL.out⟩
  · have hpos : 0 < fin.1.length := List.length_pos_iff.2 hf
    obtain ⟨E, o, rfl, hEB, hc0⟩ := hcells 0 hpos
    have hc0' : w4.cell? ⟨E, o, none⟩ = some (.int .i64 (fin.1.getD 0 0)) := by simpa using hc0
    generalize fin.1.getD 0 0 = e0 at hc0'
    have hgt : decide ((0 : Int) < (fin.1.length : Int)) = true := by simp; omega
    have HF4 : Hid (F.answers w4.tape) := by
      show F.answers w4.tape
      rw [hB4.out.tape, HT'.out]; exact HF.out
    generalize hln : fin.1.length = ln at *
    clear hce hcells hev4 hc0
    have hlt0 : (0 : Int) < (ln : Int) := by omega
    have hnb := block_new w4 (.cells #[.iface 3 (.int .i64 n4), .iface 3 (.int .i64 (IntKind.i64.wrap (e0 + 1)))] 20 (0, 0))
    have ER := hide (errorf_two F w4.heap.size n4 (IntKind.i64.wrap (e0 + 1)) (w4.alloc (.cells #[.iface 3 (.int .i64 n4), .iface 3 (.int .i64 (IntKind.i64.wrap (e0 + 1)))] 20)).drew HF4.out
      (by rw [World.cell?_drew, cell_at hnb]; rfl) (by rw [World.cell?_drew, cell_at hnb]; rfl))
    have HBN := hide (show Below w4.heap.size w4 (w4.alloc (.cells #[.iface 3 (.int .i64 n4), .iface 3 (.int .i64 (IntKind.i64.wrap (e0 + 1)))] 20)).drew from ((Below.refl _ w4).alloc (Nat.le_refl _) _).drew)
    have hbw4 : B ≤ w4.heap.size := Nat.le_trans hC4.out.bn (Nat.le_of_lt (lt_of_block hC4.out.cn))
    clear hnb
    go_wp2_with fail
    go_region_with (go_at_call 15; refine ER.out.mono ?_; rintro e w5 ⟨⟨ae, rfl⟩, hb5⟩; replace hb5 := hide hb5)
    all_goals
      go_wp2
      go_ret
      have hb45 : Below w4.heap.size w4 w5 := HBN.out.trans (hb5.out.mono (by simp))
      refine ⟨_, g4, rfl, fun h => absurd h hf, fun _ => ⟨_, rfl⟩, ?_, HBL.out.trans (hb45.mono hbw4)⟩
      obtain ⟨⟨cs, hcb⟩, _⟩ := buf_tag hC4.out.buf
      refine hC4.out.buf.kept (hb45.block b (lt_of_block hcb)) (fun q hq => hb45.block q ?_)
      obtain ⟨lr, ⟨e, _⟩ | ⟨q', cap, cur, e, _, _, hq', _⟩⟩ := hC4.out.buf
      · rw [hq] at e; cases e
      · rw [hq] at e; cases e; exact lt_of_block hq'
end Go.Proofs.Qxb6616519aFmt
