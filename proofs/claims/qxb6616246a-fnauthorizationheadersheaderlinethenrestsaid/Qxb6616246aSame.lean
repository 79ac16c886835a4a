/-
  Rows of numbers as they are read; sameInts.
-/
import Derived.Test.Qxb6616246aAuth
namespace Go.Proofs.Qxb6616246a
set_option linter.unusedVariables false
open Go.RowKit
/-- THE VALUE v IS A SLICE THAT READS AS THE NUMBERS l. -/
def Reads (w : World) (v : Value) (l : List Int) : Prop :=
  ∃ a cap, v = .slice a l.length cap ∧ ∀ j, j < l.length → ∃ g o, a = some ⟨g, o, none⟩ ∧ w.cell? ⟨g, o + j, none⟩ = some (.int .i64 (l.getD j 0))
theorem reads_own {H : Nat} {w : World} {v : Value} {l : List Int} (h : w.ownsRow H 3 1 v l.length (ints l)) : Reads w v l := by
  rcases h.2 with ⟨rfl, h0⟩ | ⟨g, cap, cur, rfl, _⟩
  · exact ⟨none, 0, by rw [h0], fun j hj => by omega⟩
  · refine ⟨_, cap, rfl, fun j hj => ⟨g, 0, rfl, ?_⟩⟩
    rw [Nat.zero_add, h.cellAt j (by omega)]
    simp [ints, List.getD, List.getElem?_eq_getElem hj]
theorem Reads.below {w w' : World} {v : Value} {l : List Int} {H : Nat} (h : Reads w v l) (hb : Below H w w') (hlt : H = w.heap.size) : Reads w' v l := by
  obtain ⟨a, cap, rfl, hc⟩ := h
  refine ⟨a, cap, rfl, fun j hj => ?_⟩
  obtain ⟨g, o, rfl, h1⟩ := hc j hj
  have : g < H := by rw [hlt]; exact World.block_lt_of_cell? w ⟨g, o + j, none⟩ h1
  exact ⟨g, o, rfl, by rw [hb.cell (p := ⟨g, o + j, none⟩) this]; exact h1⟩
theorem Reads.drewN {w : World} {v : Value} {l : List Int} (h : Reads w v l) (n : Nat) : Reads (w.drewN n) v l := h
set_option maxHeartbeats 1000000 in
theorem same_any (va vb : Value) (l : List Int) (w : World) (ha : Reads w va l) (hb : Reads w vb l) (hl : l.length ≤ 1000000000) :
    Calls Try.prog 17 #[va, vb] w fun e w' => e = .returned (.bool true) ∧ ∃ n, w' = w.drewN n := by
  obtain ⟨a, ca, rfl, qa⟩ := ha
  obtain ⟨b, cb, rfl, qb⟩ := hb
  have QA := hide qa
  have QB := hide qb
  clear qa qb
  go_enter Try.func17, Try.ntmps17
  go_wp2
  go_loopw [5] (fun i wr => ∃ k n : Nat, k ≤ l.length ∧ i = .int .i64 k ∧ wr = w.drewN n) (fun i _ => l.length - (intOf i).toNat)
  case atStart => exact ⟨0, 0, by omega, rfl, rfl⟩
  case round =>
    obtain ⟨k, n, hk, rfl, rfl⟩ := hrel
    by_cases hlt : k < l.length
    · obtain ⟨g1, o1, rfl, h1⟩ := QA.out k hlt
      obtain ⟨g2, o2, rfl, h2⟩ := QB.out k hlt
      generalize l.getD k 0 = x at h1 h2
      go_wp2
      go_quiet (fail)
      go_wp2
      go_roundw
      case rel => exact ⟨k + 1, _, by omega, by go_num, rfl⟩
      case measure => simp [intOf]; omega
    · go_wp2
      go_ret
      exact ⟨rfl, _, rfl⟩
end Go.Proofs.Qxb6616246a
