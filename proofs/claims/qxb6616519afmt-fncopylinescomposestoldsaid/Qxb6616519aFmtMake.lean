/-
  'strings.NewReader', 'bufio.NewReader', '(*bytes.Buffer).String'.
-/
import Derived.Test.Qxb6616519aFmtFill
import Derived.Test.Qxb6616519aFmtBuf
import Derived.Lib.BufferRead
namespace Go.Proofs.Qxb6616519aFmt
set_option linter.unusedVariables false
open Go.RowKit
set_option maxHeartbeats 2000000 in
theorem newReader_str (T : ByteArray) (w : World) :
    Calls Tryf.prog 11 #[.string T] w fun e w' => e = .returned (.pointer (some ⟨w.heap.size, 0, none⟩)) ∧ w' = w.alloc (.cells #[.string T, .int .i64 0, .int .i64 (-1)] 52 (0, 0)) := by
  go_enter Tryf.func11, Tryf.ntmps11
  go_wp2
  go_ret
  exact ⟨rfl, rfl⟩
theorem Tryf.assert39 (a : Addr) (w : World) : (Instr.typeAssert (.iface 39 (.pointer (some a))) 45 53 true).run Tryf.prog w = .ok (.tuple #[.pointer none, .bool false]) w := by kernel_rfl
set_option maxHeartbeats 4000000 in
set_option maxRecDepth 100000 in
theorem newReader_buf (S : Nat) (T : ByteArray) (w : World) (hS : StrAt S T 0 w) :
    Calls Tryf.prog 16 #[.iface 39 (.pointer (some ⟨S, 0, none⟩))] w fun e w' => e = .returned (.pointer (some ⟨w.heap.size, 0, none⟩)) ∧ RdAt w.heap.size S (w.heap.size + 1) T 0 0 0 .nilIface w' ∧ Below w.heap.size w w' := by
  obtain ⟨i0, hi, hz0, hz1, hz2⟩ := info_parts Tryf.info5
  obtain ⟨M, hM⟩ : ∃ M, M = madeCells (Value.int .u8 0).cells ((4096 : Int).toNat * i0.size) := ⟨_, rfl⟩
  have hMs : M.size = 4096 := by rw [hM, size_madeCells, hz1]; rfl
  have hmk : ∀ W : World, (Instr.makeSlice 26 (.int .i64 4096) (.int .i64 4096)).run Tryf.prog W = .ok (.slice (some ⟨W.heap.size, 0, none⟩) 4096 4096) (W.alloc (.cells M 5)) := fun W => by
    have h := run_makeSlice (P := Tryf.prog) W 26 5 i0 (.int .u8 0) Tryf.underlying26 hi hz0 .i64 .i64 4096 4096 (by omega) (by omega) (by rw [hz1]; decide) (by rw [hz2]; decide) (by decide)
    rw [← hM] at h
    simpa using h
  clear hM
  have HS := hide hS
  clear hS
  have hta := Tryf.assert39
  go_enter Tryf.func16, Tryf.ntmps16
  go_wp2
  go_end0
  go_wp2
  go_ret
  have hSw : S < w.heap.size := by obtain ⟨pr, h⟩ := HS.out; exact lt_of_block h
  refine ⟨rfl, ⟨⟨-1, -1, ?_⟩, ?_, ⟨M, ?_, hMs, ?_⟩, by omega, by omega, by omega, by omega, by omega, by omega, by omega⟩, ?_⟩
  · rw [Below.heap_alloc _ _ _ (by simp)]; exact block_new w _
  · obtain ⟨pr, h⟩ := HS.out
    exact ⟨pr, by rw [Below.heap_alloc _ _ _ (by simp; omega), Below.heap_alloc _ _ _ hSw]; exact h⟩
  · have := block_new (w.alloc (.cells #[.slice (some ⟨w.heap.size + 1, 0, none⟩) 4096 4096, .iface 39 (.pointer (some ⟨S, 0, none⟩)), .int .i64 0, .int .i64 0, .nilIface, .int .i64 (-1), .int .i64 (-1)] 64 (0, 0))) (.cells M 5 (0, 0))
    simpa using this
  · simp [bytesV]
  · exact ((Below.refl _ w).alloc (Nat.le_refl _) _).alloc (by simp) _
set_option maxHeartbeats 4000000 in
theorem string_any (b : Nat) (g : Option Nat) (X : List UInt8) (w : World) (h : BufAt b g X w) (hl : X.length ≤ 1073741824) :
    Calls Tryf.prog 12 #[.pointer (some ⟨b, 0, none⟩)] w fun e w' => e = .returned (.string ⟨X.toArray⟩) ∧ ∃ n, w' = w.drewN n := by
  obtain ⟨lr, ⟨rfl, rfl, hb⟩ | ⟨q, cap, cur, rfl, hqb, hb, hq, hcs, hlc, hcm, htk, hx1⟩⟩ := h
  · have c0 : w.cell? ⟨b, 0, none⟩ = some (.slice none 0 0) := by rw [cell_at hb]; rfl
    have c1 : w.cell? ⟨b, 1, none⟩ = some (.int .i64 0) := by rw [cell_at hb]; rfl
    have hcv : ∀ W, (convert 26 9 (.slice none 0 0)).run Tryf.prog W = .ok (.string ⟨#[]⟩) W := fun W => Lib.run_convert_nil_bytes W _ _ _ 0 Tryf.underlying26 Tryf.underlying5 Tryf.underlying9
    go_enter Tryf.func12, Tryf.ntmps12
    go_wp2_with fail
    go_region
    all_goals (go_wp2; go_ret; exact ⟨rfl, 1, rfl⟩)
  · have c0 : w.cell? ⟨b, 0, none⟩ = some (.slice (some ⟨q, 0, none⟩) X.length cap) := by rw [cell_at hb]; rfl
    have c1 : w.cell? ⟨b, 1, none⟩ = some (.int .i64 0) := by rw [cell_at hb]; rfl
    have hcv := run_convert_bytes_back (P := Tryf.prog) w.drew 26 9 5 ⟨q, 0, none⟩ cap X Tryf.underlying26 Tryf.underlying5 Tryf.underlying9 (Lib.bytes_of_row (w := w.drew) hq htk)
    unfold maxLen at hcm
    go_enter Tryf.func12, Tryf.ntmps12
    go_wp2_with fail
    go_region
    all_goals (go_wp2; go_ret; exact ⟨rfl, 1, rfl⟩)
end Go.Proofs.Qxb6616519aFmt
