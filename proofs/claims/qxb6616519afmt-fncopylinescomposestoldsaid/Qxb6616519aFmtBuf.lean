/-
  bytes.Buffer, only written: 'tryGrowByReslice', 'Len', 'grow', 'Write'.
-/
import Derived.Test.Qxb6616519aFmtBase
import Derived.Deep.RegionWith
import Derived.Deep.Draws
import Derived.BigCall
import Derived.BigGuard
import Derived.WalkSpells
import Derived.Lib.SliceRun
namespace Go.Proofs.Qxb6616519aFmt
set_option linter.unusedVariables false
open Go.RowKit
/-- Block b is a bytes.Buffer that holds the bytes X; its row is block g, or it has none. -/
def BufAt (b : Nat) (g : Option Nat) (X : List UInt8) (w : World) : Prop :=
  ∃ lr : Int, (g = none ∧ X = [] ∧ w.heap[b]? = some (.cells #[.slice none 0 0, .int .i64 0, .int .i8 lr] 34 (0, 0))) ∨
    ∃ q cap cur, g = some q ∧ q ≠ b ∧ w.heap[b]? = some (.cells #[.slice (some ⟨q, 0, none⟩) X.length cap, .int .i64 0, .int .i8 lr] 34 (0, 0)) ∧
      w.heap[q]? = some (.cells cur 5 (0, 0)) ∧ cur.size = cap ∧ X.length ≤ cap ∧ cap ≤ maxLen ∧ cur.toList.take X.length = bytesV X ∧ 1 ≤ X.length
set_option maxHeartbeats 2000000 in
theorem tryGrow_room (b l cap n : Nat) (a : Option Addr) (w : World) (h0 : w.cell? ⟨b, 0, none⟩ = some (.slice a l cap)) (f0 : w.frozen? ⟨b, 0, none⟩ = false) (hl : l + n ≤ cap) (hc : cap ≤ maxLen) :
    Calls Tryf.prog 47 #[.pointer (some ⟨b, 0, none⟩), .int .i64 n] w fun e w' => e = .returned (.tuple #[.int .i64 l, .bool true]) ∧ w' = w.setCell ⟨b, 0, none⟩ (.slice a (l + n) cap) := by
  unfold maxLen at hc
  go_enter Tryf.func47, Tryf.ntmps47
  go_wp2
  all_goals (go_ret2; exact ⟨rfl, rfl⟩)
set_option maxHeartbeats 2000000 in
theorem tryGrow_none (b l cap n : Nat) (a : Option Addr) (w : World) (h0 : w.cell? ⟨b, 0, none⟩ = some (.slice a l cap)) (hl : l ≤ cap) (hr : cap < l + n) (hc : cap ≤ maxLen) (hn : n ≤ 1073741824) :
    Calls Tryf.prog 47 #[.pointer (some ⟨b, 0, none⟩), .int .i64 n] w fun e w' => e = .returned (.tuple #[.int .i64 0, .bool false]) ∧ w' = w := by
  unfold maxLen at hc
  go_enter Tryf.func47, Tryf.ntmps47
  go_wp2
  all_goals (go_ret2; exact ⟨rfl, rfl⟩)
set_option maxHeartbeats 2000000 in
theorem len_any (b l cap : Nat) (a : Option Addr) (w : World) (h0 : w.cell? ⟨b, 0, none⟩ = some (.slice a l cap)) (h1 : w.cell? ⟨b, 1, none⟩ = some (.int .i64 0)) (hl : l ≤ 1073741824) :
    Calls Tryf.prog 49 #[.pointer (some ⟨b, 0, none⟩)] w fun e w' => e = .returned (.int .i64 l) ∧ ∃ k, w' = w.drewN k := by
  go_enter Tryf.func49, Tryf.ntmps49
  go_wp2_with fail
  go_quiet (fail)
  go_wp2
  go_ret
  exact ⟨by go_num, _, rfl⟩

theorem Tryf.info5 : (Tryf.prog.info? 5).map (fun i => (i.zero, i.size, i.bytes)) = some (some (.int .u8 0), 1, 1) := by kernel_rfl
/-- What 'grow' leaves: a row of its own, new, with room for n bytes more. -/
def Grew (b l n : Nat) (X : List UInt8) (w w' : World) : Prop :=
  ∃ (lr : Int) (q cap : Nat) (cur : Array Value), w.heap.size ≤ q ∧ q ≠ b ∧ w'.heap[b]? = some (.cells #[.slice (some ⟨q, 0, none⟩) (l + n) cap, .int .i64 0, .int .i8 lr] 34 (0, 0)) ∧
    w'.heap[q]? = some (.cells cur 5 (0, 0)) ∧ cur.size = cap ∧ l + n ≤ cap ∧ cap ≤ maxLen ∧ cur.toList.take l = bytesV X ∧ Kept [b] w w'
theorem grew_end {b l n N cap cap2 : Nat} {a : Option Addr} {lr : Int} {X : List UInt8} {w w0 w2 : World} {cells : Array Value} (hb : w2.heap[b]? = some (.cells #[.slice a l cap, .int .i64 0, .int .i8 lr] 34 (0, 0)))
    (hN : w2.heap[N]? = some (.cells cells 5 (0, 0))) (hNw : w.heap.size ≤ N) (hbw : b < w.heap.size) (hs : cells.size = cap2) (ht : cells.toList.take l = bytesV X) (hc : l + n ≤ cap2) (hm : cap2 ≤ maxLen) (hk : Kept [b] w w2) :
    Grew b l n X w ((((w2.setCell ⟨b, 0, none⟩ (.slice (some ⟨N, 0, none⟩) l cap2)).setCell ⟨b, 1, none⟩ (.int .i64 0)).setCell ⟨b, 0, none⟩ (.slice (some ⟨N, 0, none⟩) (l + n) cap2))) := by
  refine ⟨lr, N, cap2, cells, hNw, by omega, ?_, ?_, hs, hc, hm, ht, ?_⟩
  · have := heap_set (heap_set (heap_set hb 0 (.slice (some ⟨N, 0, none⟩) l cap2)) 1 (.int .i64 0)) 0 (.slice (some ⟨N, 0, none⟩) (l + n) cap2)
    simpa using this
  · have h : N ≠ b := by omega
    show ((((w2.setCell ⟨b, 0, none⟩ _).setCell ⟨b, 1, none⟩ _).setCell ⟨b, 0, none⟩ _)).heap[N]? = _
    rw [Below.heap_setCell _ _ _ _ h, Below.heap_setCell _ _ _ _ h, Below.heap_setCell _ _ _ _ h]
    exact hN
  · exact (((hk.setCell ⟨b, 0, none⟩ (by simp) _).setCell ⟨b, 1, none⟩ (by simp) _).setCell ⟨b, 0, none⟩ (by simp) _)
set_option maxHeartbeats 6400000 in
set_option maxRecDepth 100000 in
theorem grow_small (b n : Nat) (lr : Int) (w : World) (hb : w.heap[b]? = some (.cells #[.slice none 0 0, .int .i64 0, .int .i8 lr] 34 (0, 0))) (hn : 1 ≤ n) (h64 : n ≤ 64) :
    Calls Tryf.prog 48 #[.pointer (some ⟨b, 0, none⟩), .int .i64 n] w fun e w' => e = .returned (.int .i64 0) ∧ Grew b 0 n [] w w' := by
  obtain ⟨i0, hi, hz0, hz1, hz2⟩ := info_parts Tryf.info5
  obtain ⟨M, hM⟩ : ∃ M, M = madeCells (Value.int .u8 0).cells ((64 : Int).toNat * i0.size) := ⟨_, rfl⟩
  have hMs : M.size = 64 := by rw [hM, size_madeCells, hz1]; rfl
  have hmk : ∀ W : World, (Instr.makeSlice 26 (.int .i64 (n : Int)) (.int .i64 64)).run Tryf.prog W = .ok (.slice (some ⟨W.heap.size, 0, none⟩) n 64) (W.alloc (.cells M 5)) := fun W => by
    have h := run_makeSlice (P := Tryf.prog) W 26 5 i0 (.int .u8 0) Tryf.underlying26 hi hz0 .i64 .i64 (n : Int) 64 (by omega) (by omega) (by rw [hz1]; decide) (by rw [hz2]; decide) (by decide)
    rw [← hM] at h
    simpa using h
  clear hM
  have hnil : ∀ W, (binOp .eql 26 (.slice none 0 0) (.slice none 0 0)).run Tryf.prog W = .ok (.bool true) W := fun W => Lib.run_eql_slice_nil (P := Tryf.prog) W 26 5 none 0 0 0 0 Tryf.underlying26
  have LN := fun W h => len_any b 0 0 none W h
  have TG := fun W h => tryGrow_none b 0 0 n none W h (by omega) (by omega) (by unfold maxLen; omega) (by omega)
  have HB := hide hb
  have hbw := lt_of_block hb
  have k0 : w.cell? ⟨b, 0, none⟩ = some (.slice none 0 0) := by rw [cell_at hb]; rfl
  have k1 : w.cell? ⟨b, 1, none⟩ = some (.int .i64 0) := by rw [cell_at hb]; rfl
  have f0 := frozen_at hb 0
  clear hb
  go_enter Tryf.func48, Tryf.ntmps48
  go_wp2_with (go_at_call 49; refine (LN _ k0 k1 (by omega)).mono ?_)
  rintro e W0 ⟨rfl, k, hW0⟩
  have k0' : W0.cell? ⟨b, 0, none⟩ = some (.slice none 0 0) := by rw [hW0]; exact k0
  have k1' : W0.cell? ⟨b, 1, none⟩ = some (.int .i64 0) := by rw [hW0]; exact k1
  have f0' : W0.frozen? ⟨b, 0, none⟩ = false := by rw [hW0]; exact f0
  have hbw' : b < W0.heap.size := by rw [hW0]; exact hbw
  have c0a : ∀ o, (W0.alloc o).cell? ⟨b, 0, none⟩ = some (.slice none 0 0) := fun o => (World.cell?_of_block (a := ⟨b, 0, none⟩) (Below.heap_alloc W0 o b hbw')).trans k0'
  have f0a : ∀ o, (W0.alloc o).frozen? ⟨b, 0, none⟩ = false := fun o => (World.frozen?_of_block (a := ⟨b, 0, none⟩) (Below.heap_alloc W0 o b hbw')).trans f0'
  have HW := hide hW0
  clear hW0 k0 k1 f0
  go_wp2_with (go_at_call 47; refine (TG _ k0').mono ?_; rintro e w' ⟨rfl, rfl⟩)
  go_ret
  have hs : w'.heap.size = w.heap.size := by rw [HW.out]; rfl
  refine ⟨rfl, lr, w'.heap.size, 64, M, by omega, by omega, ?_, ?_, hMs, by omega, by unfold maxLen; omega, by simp [bytesV], ?_⟩
  · have hb' : w'.heap[b]? = some (.cells #[.slice none 0 0, .int .i64 0, .int .i8 lr] 34 (0, 0)) := by rw [HW.out]; exact HB.out
    rw [Below.heap_alloc _ _ _ (by simpa using hbw')]
    simpa using heap_set hb' 0 (.slice (some ⟨w'.heap.size, 0, none⟩) n 64)
  · have := block_new (w'.setCell ⟨b, 0, none⟩ (.slice (some ⟨w'.heap.size, 0, none⟩) n 64)) (.cells M 5 (0, 0))
    simpa using this
  · rw [HW.out]
    exact ((((Kept.refl [b] w).drewN k).setCell ⟨b, 0, none⟩ (by simp) _).alloc _)
end Go.Proofs.Qxb6616519aFmt
