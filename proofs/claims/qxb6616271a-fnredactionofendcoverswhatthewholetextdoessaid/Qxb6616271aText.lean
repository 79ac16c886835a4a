/-
  cloneBytes, with the form of what it hands back; pieces.
-/
import Derived.Test.Qxb6616271aPieces
import Derived.Test.Qxb6616271aSecrets
namespace Go.Proofs.Qxb6616271a
set_option linter.unusedVariables false
open Go.RowKit
/-- THE FORM of the text's value: nil where it is empty, or a whole row. -/
def TextV (X : List UInt8) (v : Value) : Prop := (v = .slice none 0 0 ∧ X = []) ∨ ∃ g, v = .slice (some ⟨g, 0, none⟩) X.length X.length
set_option maxHeartbeats 1000000 in
theorem clone_text (v : Value) (X : List UInt8) (w : World) (h : ReadsB w v X) (hl : X.length ≤ 1000000000) :
    Calls Try.prog 12 #[v] w fun e w' => ∃ v', e = .returned v' ∧ ReadsB w' v' X ∧ TextV X v' ∧ Below w.heap.size w w' := by
  have hnil := fun (a : Option Addr) (n c : Nat) (w : World) => Lib.run_eql_slice_nil (P := Try.prog) w 30 5 a n c 0 0 Try.underlying30
  obtain ⟨a, cap, rfl, hcap, hc⟩ := h
  have HC := hide hc
  clear hc
  cases a with
  | none =>
    have hX : X.length = 0 := by
      apply Classical.byContradiction
      intro hn
      obtain ⟨g, o, h, _⟩ := HC.out 0 (by omega)
      cases h
    have hX' : X = [] := List.eq_nil_of_length_eq_zero hX
    subst hX'
    go_enter Try.func12, Try.ntmps12
    go_wp2
    go_ret
    exact ⟨_, rfl, ⟨none, 0, rfl, Nat.le_refl _, fun j hj => by simp at hj⟩, .inl ⟨rfl, rfl⟩, Below.refl _ _⟩
  | some ad =>
    obtain ⟨i0, hi, hz0, hz1, hz2⟩ := info_parts Try.info5
    go_enter Try.func12, Try.ntmps12
    go_wp2_with (at_make; refine wpList_make_full _ rfl (.tmp 8) (.tmp 8) 30 rfl w.heap.size 5 i0 (.int .u8 0) 1 Try.underlying30 hi hz0 hz1 .i64 .i64 _ _ X.length rfl rfl rfl rfl (by rw [hz2]; omega) (by unfold maxLen; omega) (Nat.le_refl _) ?_; intro w1 hown hgrow)
    have hb0 : Below w.heap.size w w1 := (Below.refl _ _).grown hgrow (Nat.le_refl _) (fun k h => by cases h)
    clear hgrow
    go_loopw [4] (fun i wr => ∃ k : Nat, k ≤ X.length ∧ i = .int .i64 k ∧ Hid (Below w.heap.size w wr) ∧ ∃ xs, Hid (Filled X k xs) ∧ Hid (wr.ownsRow w.heap.size 5 1 (.slice (some ⟨w.heap.size, 0, none⟩) X.length X.length) X.length xs)) (fun i _ => X.length - (intOf i).toNat)
    case atStart => exact ⟨0, by omega, rfl, hb0, _, (fun _ _ h => absurd h (Nat.not_lt_zero _)), hown⟩
    case round =>
      clear hown hb0
      obtain ⟨k, hk, rfl, HB, xs, HF, HO⟩ := hrel
      by_cases hlt : k < X.length
      · obtain ⟨g, o, e, hc1⟩ := HC.out k hlt
        simp only [Option.some.injEq] at e
        subst e
        have hc2 : wr.cell? ⟨g, o + k, none⟩ = some (.int .u8 ((X.getD k 0).toNat : Int)) := by
          rw [HB.out.cell (p := ⟨g, o + k, none⟩) (World.block_lt_of_cell? w ⟨g, o + k, none⟩ hc1)]; exact hc1
        clear hc1
        have hl1 : k < xs.length := by have := HO.out.1; omega
        have hce : wr.cell? ⟨w.heap.size, k, none⟩ = some (xs[k]'hl1) := by rw [HO.out.cellAt k (by omega)]; exact List.getElem?_eq_getElem hl1
        have hfz : wr.frozen? ⟨w.heap.size, k, none⟩ = false := HO.out.frozenAt k
        have KEY : Hid (∃ ys, Filled X (k + 1) ys ∧ (wr.setCell ⟨w.heap.size, k, none⟩ (.int .u8 ((X.getD k 0).toNat : Int))).ownsRow w.heap.size 5 1 (.slice (some ⟨w.heap.size, 0, none⟩) X.length X.length) X.length ys) :=
          ⟨_, HF.out.set hl1, (HO.out.stored k _).1⟩
        have HB' : Hid (∀ u, Below w.heap.size w (wr.setCell ⟨w.heap.size, k, none⟩ u)) := fun u => HB.out.setCell (by simp) u
        generalize (X.getD k 0).toNat = b at hc2 KEY
        go_wp2
        go_roundw
        case rel => obtain ⟨ys, y1, y2⟩ := KEY.out; exact ⟨k + 1, by omega, by go_num, HB'.out _, ys, y1, y2⟩
        case measure => simp [intOf]; omega
      · have e : k = X.length := by omega
        subst e
        have ex := HF.out.all (by have := HO.out.1; omega)
        subst ex
        have RB := hide (reads_bytes HO.out)
        go_wp2
        go_ret
        exact ⟨_, rfl, RB.out, .inr ⟨_, rfl⟩, HB.out⟩
set_option maxHeartbeats 1000000 in
theorem pieces_any (R : Nat) (w : World) :
    Calls Try.prog 25 #[.pointer (some ⟨R, 0, none⟩)] w fun e w' => e = .returned (.func (.func 33) #[] #[.pointer (some ⟨w.heap.size, 0, none⟩)]) ∧ w' = w.alloc (.cells #[.pointer (some ⟨R, 0, none⟩)] 36 (0, 0)) := by
  go_enter Try.func25, Try.ntmps25
  go_wp2
  go_ret
  exact ⟨rfl, rfl⟩
end Go.Proofs.Qxb6616271a
