/-
  'ascendingWithin'.
-/
import Derived.Test.Qxb6616519aFmtPlain2
import Derived.Test.Qxb6616519aFmtSel
namespace Go.Proofs.Qxb6616519aFmt
set_option linter.unusedVariables false
open Go.RowKit
set_option maxHeartbeats 4000000 in
theorem asc_any (a : Option Addr) (ln c N : Nat) (ev : List Int) (w : World) (hv : EvAt w.heap.size (.slice a ln c) ev w) (hln : ev.length = ln) (hl : ln ≤ 1048576) (hN : N ≤ 1048576) :
    Calls Tryf.prog 9 #[.slice a ln c, .int .i64 N] w fun e w' => (e = .returned (.bool false) ∨ (e = .returned (.bool true) ∧ Asc N ev)) ∧ ∃ k, w' = w.drewN k := by
  have HV := hide hv
  have HLN := hide hln
  clear hv hln
  go_enter Tryf.func9, Tryf.ntmps9
  go_wp2_with fail
  go_loopw [5] (fun s5 wr => ∃ m : Nat, s5 = .int .i64 m ∧ m ≤ ln ∧ Hid (∀ j, j < m → okAt N ev j) ∧ ∃ k, wr = w.drewN k) (fun s5 _ => ln - (intOf s5).toNat)
  case atStart => exact ⟨0, rfl, by omega, fun j hj => by omega, 0, rfl⟩
  case round =>
    obtain ⟨m, rfl, hmn, HOK, k, rfl⟩ := hrel
    by_cases hlt : m < ln
    · have hcells := HV.out.cells
      obtain ⟨E, o, rfl, hEB, hce⟩ := hcells m hlt
      obtain ⟨x, HX⟩ : ∃ x, Hid (ev.getD m 0 = x) := ⟨_, rfl⟩
      rw [HX.out] at hce
      have hlt' : (m : Int) < (ln : Int) := by omega
      by_cases hneg : x < 0
      · have hneg' : decide (x < 0) = true := by simpa using hneg
        clear hcells
        go_wp2_with fail
        go_ret
        exact ⟨.inl rfl, k, rfl⟩
      · have hneg' : decide (x < 0) = false := by simpa using hneg
        by_cases hbig : (N : Int) ≤ x
        · have hbig' : decide ((N : Int) ≤ x) = true := by simpa using hbig
          clear hcells
          go_wp2_with fail
          go_ret
          exact ⟨.inl rfl, k, rfl⟩
        · have hbig' : decide ((N : Int) ≤ x) = false := by simpa using hbig
          by_cases hm0 : m = 0
          · subst hm0
            rw [Nat.add_zero] at hce
            have OK2 : Hid (∀ j, j < 0 + 1 → okAt N ev j) := fun j hj => by
              obtain rfl : j = 0 := by omega
              exact ⟨by rw [HX.out]; omega, by rw [HX.out]; omega, .inl rfl⟩
            have hmg : decide ((0 : Int) < ((0 : Nat) : Int)) = false := by simp
            clear hcells HOK
            go_wp2_with fail
            go_quiet (fail)
            go_wp2
            go_roundw
            case rel => exact ⟨0 + 1, by go_num, by omega, OK2, _, by first | rfl | trivial⟩
            case measure => simp [intOf]; omega
          · obtain ⟨m, rfl⟩ : ∃ m', m = m' + 1 := ⟨m - 1, by omega⟩
            obtain ⟨E2, o2, e2, _, hce2⟩ := hcells m (by omega)
            cases e2
            obtain ⟨y, HY⟩ : ∃ y, Hid (ev.getD m 0 = y) := ⟨_, rfl⟩
            rw [HY.out] at hce2
            have hmg : decide ((0 : Int) < (m : Int) + 1) = true := decide_eq_true (by omega)
            have hm1 : IntKind.i64.wrap (m : Int) = (m : Int) := by rw [IntKind.wrap_i64]; omega
            have hm2 : (m : Int) < (ln : Int) := by omega
            have hm3 : (m : Int) + 1 < (ln : Int) := by omega
            by_cases hasc : x ≤ y
            · have hasc' : decide (x ≤ y) = true := by simpa using hasc
              clear hcells
              go_wp2_with fail
              go_quiet (fail)
              go_wp2
              go_ret
              exact ⟨.inl rfl, k + nq, by first | rfl | simp⟩
            · have hasc' : decide (x ≤ y) = false := by simpa using hasc
              have OK2 : Hid (∀ j, j < m + 1 + 1 → okAt N ev j) := fun j hj => by
                by_cases hjm : j < m + 1
                · exact HOK.out j hjm
                · obtain rfl : j = m + 1 := by omega
                  exact ⟨by rw [HX.out]; omega, by rw [HX.out]; omega, .inr (by rw [HX.out, Nat.add_sub_cancel, HY.out]; omega)⟩
              clear hcells HOK
              go_wp2_with fail
              go_quiet (fail)
              go_wp2
              go_roundw
              case rel => exact ⟨m + 1 + 1, by go_num, by omega, OK2, _, by first | rfl | trivial⟩
              case measure => simp [intOf]; omega
    · obtain rfl : m = ln := by omega
      go_wp2
      go_ret
      exact ⟨.inr ⟨rfl, by rw [← HLN.out] at HOK; exact HOK.out⟩, k, rfl⟩
end Go.Proofs.Qxb6616519aFmt
