/-
  The sentinels as the row lists them; a world in which they lie so.
-/
import Derived.Test.Qxb6616519aFmtErrs
import Derived.ProofKit
import Derived.Stop.LaidErr
import Derived.Stop.JoinedTold
namespace Go.Proofs.Qxb6616519aFmt
set_option linter.unusedVariables false
open Go.ChangeShapes Go.WideShapes Go.ChangeAt Go.RowKit
open Go.Extern.Stop Go.Stop Go.Extern
def laid4 {H : Type} : List (String × DataW H) := [("io.EOF", Rows.laid_io_EOF), ("io.ErrNoProgress", Rows.laid_io_ErrNoProgress), ("bufio.ErrBufferFull", Rows.laid_bufio_ErrBufferFull), ("bufio.errNegativeRead", Rows.laid_bufio_errNegativeRead)]
theorem Tryf.g1 : Tryf.prog.globalNamed "io.EOF" = some 1 := by kernel_rfl
theorem Tryf.g3 : Tryf.prog.globalNamed "io.ErrNoProgress" = some 3 := by kernel_rfl
theorem Tryf.g0 : Tryf.prog.globalNamed "bufio.ErrBufferFull" = some 0 := by kernel_rfl
theorem Tryf.g2 : Tryf.prog.globalNamed "bufio.errNegativeRead" = some 2 := by kernel_rfl
theorem Tryf.gt0 : (Tryf.prog.globals[0]?).map (·.type) = some 36 := by kernel_rfl
theorem Tryf.gt1 : (Tryf.prog.globals[1]?).map (·.type) = some 36 := by kernel_rfl
theorem Tryf.gt2 : (Tryf.prog.globals[2]?).map (·.type) = some 36 := by kernel_rfl
theorem Tryf.gt3 : (Tryf.prog.globals[3]?).map (·.type) = some 36 := by kernel_rfl
theorem Tryf.cells69 : Tryf.prog.cellsOf 69 = 1 := by kernel_rfl
theorem Tryf.cells9 : Tryf.prog.cellsOf 9 = 1 := by kernel_rfl
theorem Tryf.star : "*" ++ "errors.errorString" = "*errors.errorString" := by decide
theorem Tryf.row67 (u : TypeId) (h : Tryf.prog.typeName? 3 u = some "*errors.errorString") : u = 67 :=
  typeName_ptr_named (nm := "errors.errorString") (by rw [Tryf.star]; kernel_rfl) (by kernel_rfl) (by decide) u (by rw [Tryf.star]; exact h)
theorem errs_of_laid {W : World} (h : laidMet Tryf.prog laid4 W) : ∃ aE aF, Errs W.heap.size aE aF W := by
  obtain ⟨ps, ⟨g0, t0, cs0, f0, p0, q0, hg0, ht0, hv0, hd0, ⟨g1, t1, cs1, f1, p1, q1, hg1, ht1, hv1, hd1, ⟨g2, t2, cs2, f2, p2, q2, hg2, ht2, hv2, hd2, hq2, e2⟩, e1⟩, e0⟩, hnd, hrows⟩ := h
  obtain rfl := Option.some.inj (Tryf.g1.symm.trans hg0)
  obtain rfl := Option.some.inj (Tryf.g3.symm.trans hg1)
  obtain rfl := Option.some.inj (Tryf.g0.symm.trans hg2)
  obtain rfl := Option.some.inj (Tryf.gt1.symm.trans ht0)
  obtain rfl := Option.some.inj (Tryf.gt0.symm.trans ht2)
  subst e2
  subst e1
  subst e0
  obtain ⟨l0⟩ := cs0
  obtain ⟨l2⟩ := cs2
  have ok0 : ∀ u v, l0 = [.iface u v] → Value.okWide Tryf.prog W .any 0 u v := fun u v e => by
    subst e
    exact (hrows 1 0 (by simp [MemPlace.row])).2 u v (by simpa using World.var?_cell hg0 hv0 0)
  have ok2 : ∀ u v, l2 = [.iface u v] → Value.okWide Tryf.prog W .any 0 u v := fun u v e => by
    subst e
    exact (hrows 0 0 (by simp [MemPlace.row])).2 u v (by simpa using World.var?_cell hg2 hv2 0)
  obtain ⟨a0, s0, rfl, hc0, hs0, hz0, rfl⟩ := errorString_of_trod Tryf.underlying36 Tryf.row67 Tryf.underlying67 Tryf.underlying69 rfl rfl Tryf.underlying9 Tryf.cells69 Tryf.cells9 hd0 ok0
  obtain ⟨a2, s2, rfl, hc2, hs2, hz2, rfl⟩ := errorString_of_trod Tryf.underlying36 Tryf.row67 Tryf.underlying67 Tryf.underlying69 rfl rfl Tryf.underlying9 Tryf.cells69 Tryf.cells9 hd2 ok2
  obtain ⟨c0, t0', hb0⟩ := (hrows a0.block a0.off (by simp [MemPlace.row])).1
  obtain ⟨c2, t2', hb2⟩ := (hrows a2.block a2.off (by simp [MemPlace.row])).1
  have k1 : W.cell? ⟨1, 0, none⟩ = some (.iface 67 (.pointer (some a0))) := by simpa using World.var?_cell hg0 hv0 0
  have k0 : W.cell? ⟨0, 0, none⟩ = some (.iface 67 (.pointer (some a2))) := by simpa using World.var?_cell hg2 hv2 0
  refine ⟨a0, a2, k1, k0, ?_, ⟨c0, t0', hb0⟩, ⟨c2, t2', hb2⟩, lt_of_block hb0, lt_of_block hb2, ?_⟩
  · rintro rfl
    rw [hc0] at hc2
    cases hc2
    rw [hs0] at hs2
    revert hs2
    decide
  · have : 1 < W.heap.size := World.block_lt_of_cell? W ⟨1, 0, none⟩ k1
    omega
end Go.Proofs.Qxb6616519aFmt
