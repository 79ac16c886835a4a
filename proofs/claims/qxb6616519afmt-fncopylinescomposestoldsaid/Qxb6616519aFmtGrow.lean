/-
  '(*bytes.Buffer).grow' where a new row is made.
-/
import Derived.Test.Qxb6616519aFmtBuf
namespace Go.Proofs.Qxb6616519aFmt
set_option linter.unusedVariables false
open Go.RowKit
set_option maxHeartbeats 12800000 in
set_option maxRecDepth 100000 in
theorem grow_core (b l cap n : Nat) (a : Option Addr) (lr : Int) (X : List UInt8) (w : World) (hb : w.heap[b]? = some (.cells #[.slice a l cap, .int .i64 0, .int .i8 lr] 34 (0, 0))) (hn : 1 ≤ n) (hn2 : n ≤ 1073741824) (hl : l ≤ cap) (hr : cap < l + n)
    (hl2 : l ≤ 1073741824) (hnl : a.isNone = true → 64 < n) (ha : (a = none ∧ l = 0 ∧ cap = 0) ∨ ∃ g, a = some ⟨g, 0, none⟩ ∧ 1 ≤ l)
    (GS : ∀ W : World, W.heap = w.heap → Calls Tryf.prog 50 #[.slice a l cap, .int .i64 n] W fun e w' => ∃ cap2 cells, e = .returned (.slice (some ⟨W.heap.size, 0, none⟩) l cap2) ∧ w'.heap[W.heap.size]? = some (.cells cells 5 (0, 0)) ∧
      cells.size = cap2 ∧ cells.toList.take l = bytesV X ∧ l + n ≤ cap2 ∧ cap2 ≤ maxLen ∧ Below W.heap.size W w') :
    Calls Tryf.prog 48 #[.pointer (some ⟨b, 0, none⟩), .int .i64 n] w fun e w' => e = .returned (.int .i64 l) ∧ Grew b l n X w w' := by
  have hnil : ∀ W, (binOp .eql 26 (.slice a l cap) (.slice none 0 0)).run Tryf.prog W = .ok (.bool a.isNone) W := fun W => Lib.run_eql_slice_nil (P := Tryf.prog) W 26 5 a l cap 0 0 Tryf.underlying26
  have LN := fun W h => len_any b l cap a W h
  have TG := fun W h => tryGrow_none b l cap n a W h hl (by omega) (by unfold maxLen; omega) (by omega)
  have HB := hide hb
  have HG := hide GS
  have hbw := lt_of_block hb
  have k0 : w.cell? ⟨b, 0, none⟩ = some (.slice a l cap) := by rw [cell_at hb]; rfl
  have k1 : w.cell? ⟨b, 1, none⟩ = some (.int .i64 0) := by rw [cell_at hb]; rfl
  have f0 := frozen_at hb 0
  have f1 := frozen_at hb 1
  have hcap : cap ≤ 2147483648 := by omega
  clear hb GS
  go_enter Tryf.func48, Tryf.ntmps48
  go_wp2_with (go_at_call 49; refine (LN _ k0 k1 (by omega)).mono ?_)
  rintro e W0 ⟨rfl, k, hW0⟩
  have k0' : W0.cell? ⟨b, 0, none⟩ = some (.slice a l cap) := by rw [hW0]; exact k0
  have k1' : W0.cell? ⟨b, 1, none⟩ = some (.int .i64 0) := by rw [hW0]; exact k1
  have f0' : W0.frozen? ⟨b, 0, none⟩ = false := by rw [hW0]; exact f0
  have f1' : W0.frozen? ⟨b, 1, none⟩ = false := by rw [hW0]; exact f1
  have hbw' : b < W0.heap.size := by rw [hW0]; exact hbw
  have HW := hide hW0
  clear hW0 k0 k1 f0 f1
  have hwn : IntKind.i64.wrap (n : Int) = n := by rw [IntKind.wrap_i64]; omega
  have hwn' : IntKind.i64.wrap (0 + (n : Int)) = n := by rw [IntKind.wrap_i64]; omega
  rcases ha with ⟨rfl, rfl, rfl⟩ | ⟨g, rfl, hl1⟩
  · have hn64 : decide ((n : Int) ≤ 64) = false := by have := hnl rfl; simp; omega
    go_wp2_with (go_at_call 47; refine (TG _ k0').mono ?_; rintro e w' ⟨rfl, rfl⟩)
    go_region_with (
      go_at_call 50
      refine (HG.out _ ?_).mono ?_
      show _ = _
      rw [HW.out]; rfl
      rintro e w2 ⟨cap2, cells, rfl, hN, hcsz, htk, hcap2, hcm2, hbel⟩
      have hb2 : w2.heap[b]? = some (.cells #[.slice none 0 0, .int .i64 0, .int .i8 lr] 34 (0, 0)) := (hbel.block b hbw').trans (by show w'.heap[b]? = _; rw [HW.out]; exact HB.out)
      have d0 : w2.cell? ⟨b, 0, none⟩ = some (.slice none 0 0) := by rw [cell_at hb2]; rfl
      have d1 : w2.cell? ⟨b, 1, none⟩ = some (.int .i64 0) := by rw [cell_at hb2]; rfl
      have e0 : w2.frozen? ⟨b, 0, none⟩ = false := frozen_at hb2 0
      have e1 : w2.frozen? ⟨b, 1, none⟩ = false := frozen_at hb2 1)
    all_goals (
      go_wp2
      go_ret
      have hs : w'.heap.size = w.heap.size := by rw [HW.out]; rfl
      have hk : Kept [b] w w2 := (show Kept [b] w w'.drew by rw [HW.out]; exact ((Kept.refl [b] w).drewN k).drew).trans (Kept.of_below hbel)
      refine ⟨rfl, ?_⟩
      have := grew_end (w := w) (w0 := w) (n := n) hb2 hN (by show w.heap.size ≤ w'.heap.size; omega) hbw hcsz htk hcap2 hcm2 hk
      first | exact this | simpa using this)
  · have hn64 : (some (⟨g, 0, none⟩ : Addr)).isNone = false := rfl
    have hc0 : ¬ cap = 0 := by omega
    have hl0 : ((l : Int) == 0) = false := by simp; omega
    go_wp2_with (go_at_call 47; refine (TG _ k0').mono ?_; rintro e w' ⟨rfl, rfl⟩)
    go_region_with (
      go_at_call 50
      refine (HG.out _ ?_).mono ?_
      show _ = _
      rw [HW.out]; rfl
      rintro e w2 ⟨cap2, cells, rfl, hN, hcsz, htk, hcap2, hcm2, hbel⟩
      have hb2 : w2.heap[b]? = some (.cells #[.slice (some ⟨g, 0, none⟩) l cap, .int .i64 0, .int .i8 lr] 34 (0, 0)) := (hbel.block b hbw').trans (by show w'.heap[b]? = _; rw [HW.out]; exact HB.out)
      have d0 : w2.cell? ⟨b, 0, none⟩ = some (.slice (some ⟨g, 0, none⟩) l cap) := by rw [cell_at hb2]; rfl
      have d1 : w2.cell? ⟨b, 1, none⟩ = some (.int .i64 0) := by rw [cell_at hb2]; rfl
      have e0 : w2.frozen? ⟨b, 0, none⟩ = false := frozen_at hb2 0
      have e1 : w2.frozen? ⟨b, 1, none⟩ = false := frozen_at hb2 1)
    all_goals (
      go_wp2
      go_ret
      have hs : w'.heap.size = w.heap.size := by rw [HW.out]; rfl
      have hk : Kept [b] w w2 := (show Kept [b] w w'.drew by rw [HW.out]; exact ((Kept.refl [b] w).drewN k).drew).trans (Kept.of_below hbel)
      refine ⟨rfl, ?_⟩
      have := grew_end (w := w) (w0 := w) (n := n) hb2 hN (by show w.heap.size ≤ w'.heap.size; omega) hbw hcsz htk hcap2 hcm2 hk
      first | exact this | simpa using this)
end Go.Proofs.Qxb6616519aFmt
