/-
  '(*bufio.Reader).ReadSlice' at a newline.
-/
import Derived.Test.Qxb6616519aFmtFill
import Derived.Lib.BytesEntry
import Derived.Lib.IndexLaws
namespace Go.Proofs.Qxb6616519aFmt
set_option linter.unusedVariables false
open Go.RowKit
set_option maxHeartbeats 2000000 in
theorem readErr_any (R : Nat) (v : Value) (w : World) (hv : v = .nilIface ∨ ∃ t a, v = .iface t (.pointer (some a))) (c4 : w.cell? ⟨R, 4, none⟩ = some v) (f4 : w.frozen? ⟨R, 4, none⟩ = false) :
    Calls Tryf.prog 23 #[.pointer (some ⟨R, 0, none⟩)] w fun e w' => e = .returned v ∧ w' = w.setCell ⟨R, 4, none⟩ .nilIface := by
  rcases hv with rfl | ⟨t, a, rfl⟩
  all_goals
    go_enter Tryf.func23, Tryf.ntmps23
    go_wp2
    go_ret
    exact ⟨rfl, rfl⟩
set_option maxHeartbeats 2000000 in
theorem buffered_any (R r x : Nat) (w : World) (c2 : w.cell? ⟨R, 2, none⟩ = some (.int .i64 r)) (c3 : w.cell? ⟨R, 3, none⟩ = some (.int .i64 x)) (hr : r ≤ x) (hx : x ≤ 4096) :
    Calls Tryf.prog 24 #[.pointer (some ⟨R, 0, none⟩)] w fun e w' => e = .returned (.int .i64 (x - r : Nat)) ∧ ∃ k, w' = w.drewN k := by
  go_enter Tryf.func24, Tryf.ntmps24
  go_wp2_with fail
  go_quiet (fail)
  go_wp2
  go_ret
  exact ⟨by go_num, _, rfl⟩
theorem addr_add (b o j : Nat) : (⟨b, o, none⟩ : Addr).add j = ⟨b, o + j, none⟩ := by unfold Addr.add; split <;> simp_all
theorem bytesOf_nums (Z : List UInt8) : Lib.bytesOf (Z.map fun c => (c.toNat : Int)) = Z := by
  unfold Lib.bytesOf
  rw [List.map_map]
  refine (List.map_congr_left (fun c _ => ?_)).trans (List.map_id Z)
  show UInt8.ofNat ((c.toNat : Int)).toNat = c
  rw [Int.toNat_natCast, UInt8.ofNat_toNat]
set_option maxHeartbeats 2000000 in
theorem indexByte_at (b o n c : Nat) (Z : List UInt8) (w : World) (hn : Z.length = n) (hc : BytesAt w b o Z) :
    Calls Tryf.prog 22 #[.slice (some ⟨b, o, none⟩) n c, .int .u8 10] w fun e w' => e = .returned (.int .i64 (Lib.indexByte Z 10)) ∧ w' = w := by
  have hr := Lib.run_indexByteSlice (P := Tryf.prog) w b o n c (Z.map fun c => (c.toNat : Int)) (by rw [List.length_map]; exact hn) (fun i hi => hc i _ (by
    rw [bytesV, List.getElem?_map, List.getElem?_eq_getElem (by omega), List.getD, List.getElem?_map, List.getElem?_eq_getElem (by omega)]; rfl)) 10
  rw [bytesOf_nums] at hr
  go_enter Tryf.func22, Tryf.ntmps22
  go_wp2
  rw [run_callFunc_extern Tryf.func27 (by kernel_rfl) (by kernel_rfl) (by kernel_rfl) (e := Extern.BytealgIndexByte.indexByte) (by kernel_rfl), hr]
  simp only [Result.andThen]
  rw [Oper.upon_value]
  go_wp2
  go_ret
  exact ⟨rfl, rfl⟩
end Go.Proofs.Qxb6616519aFmt
