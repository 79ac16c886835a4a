/-
  The two sentinels, compared.
-/
import Derived.Test.Qxb6616519aFmtBase
import Derived.WalkSpells
import Derived.LaidEql
namespace Go.Proofs.Qxb6616519aFmt
set_option linter.unusedVariables false
open Go.RowKit
/-- io.EOF and bufio.ErrBufferFull as they lie in memory, below block B. -/
structure Errs (B : Nat) (aE aF : Addr) (w : World) : Prop where
  cE : w.cell? ⟨1, 0, none⟩ = some (.iface 67 (.pointer (some aE)))
  cF : w.cell? ⟨0, 0, none⟩ = some (.iface 67 (.pointer (some aF)))
  ne : aE ≠ aF
  bE : ∃ c t, w.heap[aE.block]? = some (.cells c t (0, 0))
  bF : ∃ c t, w.heap[aF.block]? = some (.cells c t (0, 0))
  lE : aE.block < B
  lF : aF.block < B
  two : 2 ≤ B
theorem Errs.below {B : Nat} {aE aF : Addr} {w w' : World} (h : Errs B aE aF w) (hb : Below B w w') : Errs B aE aF w' := by
  obtain ⟨c1, t1, h1⟩ := h.bE
  obtain ⟨c2, t2, h2⟩ := h.bF
  have h3 := h.two
  exact ⟨by rw [hb.cell (p := ⟨1, 0, none⟩) (by show 1 < B; omega)]; exact h.cE, by rw [hb.cell (p := ⟨0, 0, none⟩) (by show 0 < B; omega)]; exact h.cF, h.ne,
    ⟨c1, t1, (hb.block _ h.lE).trans h1⟩, ⟨c2, t2, (hb.block _ h.lF).trans h2⟩, h.lE, h.lF, h.two⟩
theorem Tryf.cmp67 : (Tryf.prog.info? 67).map (fun i => i.comparable) = some true := by kernel_rfl
theorem Tryf.size69 : (Tryf.prog.info? 69).map (fun i => i.size) = some 1 := by kernel_rfl
theorem Tryf.eqlSame (a : Addr) (w : World) : (binOp .eql 36 (.iface 67 (.pointer (some a))) (.iface 67 (.pointer (some a)))).run Tryf.prog w = .ok (.bool true) w := by
  cases h1 : Tryf.prog.info? 67 with
  | none => have := Tryf.cmp67; rw [h1] at this; cases this
  | some i =>
    cases h2 : Tryf.prog.info? 69 with
    | none => have := Tryf.size69; rw [h2] at this; cases this
    | some j =>
      exact run_eql_iface_ptr_same w a Tryf.underlying36 Tryf.underlying67 h1 (by have := Tryf.cmp67; rw [h1] at this; simpa using this) h2
theorem Errs.eqlOther {B : Nat} {aE aF : Addr} {w : World} (h : Errs B aE aF w) : (binOp .eql 36 (.iface 67 (.pointer (some aE))) (.iface 67 (.pointer (some aF)))).run Tryf.prog w = .ok (.bool false) w := by
  obtain ⟨c1, t1, hb1⟩ := h.bE
  obtain ⟨c2, t2, hb2⟩ := h.bF
  cases h1 : Tryf.prog.info? 67 with
  | none => have := Tryf.cmp67; rw [h1] at this; cases this
  | some i =>
    cases h2 : Tryf.prog.info? 69 with
    | none => have := Tryf.size69; rw [h2] at this; cases this
    | some j =>
      exact run_eql_iface_ptr_other w Tryf.underlying36 Tryf.underlying67 h1 (by have := Tryf.cmp67; rw [h1] at this; simpa using this) h2 (by have := Tryf.size69; rw [h2] at this; simp at this; omega) h.ne hb1 hb2
theorem Tryf.eqlNil (v : Value) (w : World) : (binOp .eql 36 .nilIface (.iface 67 v)).run Tryf.prog w = .ok (.bool false) w := run_eql_iface_nil_left w 67 v Tryf.underlying36
theorem Tryf.neqSame (a : Addr) (w : World) : (binOp .neq 36 (.iface 67 (.pointer (some a))) (.iface 67 (.pointer (some a)))).run Tryf.prog w = .ok (.bool false) w := by
  cases h1 : Tryf.prog.info? 67 with
  | none => have := Tryf.cmp67; rw [h1] at this; cases this
  | some i =>
    cases h2 : Tryf.prog.info? 69 with
    | none => have := Tryf.size69; rw [h2] at this; cases this
    | some j =>
      simp only [binOp]
      simp [Op.equal, Op.maxDepth, run_equalIn_iface_ptr_same w 9998 a Tryf.underlying36 Tryf.underlying67 h1 (by have := Tryf.cmp67; rw [h1] at this; simpa using this) h2]
theorem Tryf.neqNil (a : Addr) (w : World) : (binOp .neq 36 (.iface 67 (.pointer (some a))) .nilIface).run Tryf.prog w = .ok (.bool true) w := by kernel_rfl
end Go.Proofs.Qxb6616519aFmt
