/-
  Slices of strings and of bytes as they are read; the tests at the law's head.
-/
import Derived.Test.Qxb6616271aRows
import Derived.WalkKit
import Derived.Deep.QuietTactic
import Derived.BigQuiet
namespace Go.Proofs.Qxb6616271a
set_option linter.unusedVariables false
open Go.RowKit
theorem hide {p : Prop} (h : p) : Hid p := h
/-- THE VALUE v IS A SLICE THAT READS AS THE STRINGS l. -/
def ReadsS (w : World) (v : Value) (l : List ByteArray) : Prop :=
  ∃ a cap, v = .slice a l.length cap ∧ l.length ≤ cap ∧ ∀ j, j < l.length → ∃ g o, a = some ⟨g, o, none⟩ ∧ w.cell? ⟨g, o + j, none⟩ = some (.string (l.getD j ByteArray.empty))
/-- THE VALUE v IS A SLICE THAT READS AS THE BYTES l. -/
def ReadsB (w : World) (v : Value) (l : List UInt8) : Prop :=
  ∃ a cap, v = .slice a l.length cap ∧ l.length ≤ cap ∧ ∀ j, j < l.length → ∃ g o, a = some ⟨g, o, none⟩ ∧ w.cell? ⟨g, o + j, none⟩ = some (.int .u8 ((l.getD j 0).toNat : Int))
theorem ReadsS.below {w w' : World} {v : Value} {l : List ByteArray} (h : ReadsS w v l) (hb : Below w.heap.size w w') : ReadsS w' v l := by
  obtain ⟨a, cap, rfl, hl, hc⟩ := h
  refine ⟨a, cap, rfl, hl, fun j hj => ?_⟩
  obtain ⟨g, o, rfl, h1⟩ := hc j hj
  exact ⟨g, o, rfl, by rw [hb.cell (p := ⟨g, o + j, none⟩) (World.block_lt_of_cell? w ⟨g, o + j, none⟩ h1)]; exact h1⟩
theorem ReadsB.below {w w' : World} {v : Value} {l : List UInt8} (h : ReadsB w v l) (hb : Below w.heap.size w w') : ReadsB w' v l := by
  obtain ⟨a, cap, rfl, hl, hc⟩ := h
  refine ⟨a, cap, rfl, hl, fun j hj => ?_⟩
  obtain ⟨g, o, rfl, h1⟩ := hc j hj
  exact ⟨g, o, rfl, by rw [hb.cell (p := ⟨g, o + j, none⟩) (World.block_lt_of_cell? w ⟨g, o + j, none⟩ h1)]; exact h1⟩
def SomeBool (w : World) (e : Ending) (w' : World) : Prop := ∃ b, e = .returned (.bool b) ∧ w = w'
set_option maxHeartbeats 2000000 in
theorem bytes_any (v0 v1 v2 : Value) (T N : List ByteArray) (X : List UInt8) (w : World) (h0 : ReadsS w v0 T) (h1 : ReadsS w v1 N) (h2 : ReadsB w v2 X) (l0 : T.length ≤ maxLen) (l1 : N.length ≤ maxLen) (l2 : X.length ≤ maxLen) :
    Calls Try.prog 9 #[v0, v1, v2] w fun e w' => SomeBool w e w' := by
  obtain ⟨p0, c0, rfl, _, q0⟩ := h0
  obtain ⟨p1, c1, rfl, _, q1⟩ := h1
  obtain ⟨p2, c2, rfl, _, q2⟩ := h2
  unfold maxLen at l0 l1 l2
  have Q0 := hide q0
  have Q1 := hide q1
  clear q0 q1 q2
  go_enter Try.func9, Try.ntmps9
  go_wp2
  all_goals first
    | (go_ret; exact ⟨_, rfl, rfl⟩)
    | skip
  go_loop [7, 8] (fun n i => ∃ (k : Nat) (z : Int), k ≤ T.length ∧ i = .int .i64 k ∧ n = .int .i64 z) (fun _ i => T.length - (intOf i).toNat)
  case atStart => exact ⟨0, _, by omega, rfl, rfl⟩
  case round =>
    obtain ⟨k, z, hk, rfl, rfl⟩ := hrel
    by_cases hlt : k < T.length
    · obtain ⟨g, o, rfl, hc⟩ := Q0.out k hlt
      generalize T.getD k ByteArray.empty = s at hc
      go_wp2
      all_goals first
        | (go_ret; exact ⟨_, rfl, rfl⟩)
        | (go_round
           case rel => exact ⟨k + 1, _, by omega, by go_num, rfl⟩
           case measure => simp [intOf]; omega)
    · go_wp2
      all_goals first
        | (go_ret; exact ⟨_, rfl, rfl⟩)
        | skip
      go_loop [7, 9] (fun n i => ∃ (k : Nat) (z : Int), k ≤ N.length ∧ i = .int .i64 k ∧ n = .int .i64 z) (fun _ i => N.length - (intOf i).toNat)
      case atStart => exact ⟨0, _, by omega, rfl, rfl⟩
      case round =>
        obtain ⟨k, z, hk, rfl, rfl⟩ := hrel
        by_cases hlt : k < N.length
        · obtain ⟨g, o, rfl, hc⟩ := Q1.out k hlt
          generalize N.getD k ByteArray.empty = s at hc
          go_wp2
          all_goals first
            | (go_ret; exact ⟨_, rfl, rfl⟩)
            | (go_round
               case rel => exact ⟨k + 1, _, by omega, by go_num, rfl⟩
               case measure => simp [intOf]; omega)
        · go_wp2
          all_goals (go_ret; exact ⟨_, rfl, rfl⟩)
/-- What 'redactWithin' says when it says yes. -/
def Within (T N : List ByteArray) (X : List UInt8) : Prop :=
  X.length ≤ 1048576 ∧ T.length ≤ 65536 ∧ N.length ≤ 65536 ∧ (∀ j, j < T.length → (T.getD j ByteArray.empty).size ≤ 1048576) ∧ ∀ j, j < N.length → (N.getD j ByteArray.empty).size ≤ 1048576
def SaysWithin (T N : List ByteArray) (X : List UInt8) (w : World) (e : Ending) (w' : World) : Prop := w = w' ∧ (e = .returned (.bool false) ∨ (e = .returned (.bool true) ∧ Within T N X))
set_option maxHeartbeats 2000000 in
theorem within_any (v0 v1 v2 : Value) (T N : List ByteArray) (X : List UInt8) (w : World) (h0 : ReadsS w v0 T) (h1 : ReadsS w v1 N) (h2 : ReadsB w v2 X) (l0 : T.length ≤ maxLen) (l1 : N.length ≤ maxLen) (l2 : X.length ≤ maxLen) :
    Calls Try.prog 10 #[v0, v1, v2] w fun e w' => SaysWithin T N X w e w' := by
  obtain ⟨p0, c0, rfl, _, q0⟩ := h0
  obtain ⟨p1, c1, rfl, _, q1⟩ := h1
  obtain ⟨p2, c2, rfl, _, q2⟩ := h2
  unfold maxLen at l0 l1 l2
  have Q0 := hide q0
  have Q1 := hide q1
  clear q0 q1 q2
  by_cases hb : T.length ≤ 65536 ∧ N.length ≤ 65536 ∧ X.length ≤ 1048576
  · obtain ⟨b0, b1, b2⟩ := hb
    go_enter Try.func10, Try.ntmps10
    go_wp2
    all_goals first
      | (go_ret; exact ⟨rfl, .inl rfl⟩)
      | skip
    go_loop [7, 8] (fun n i => ∃ (k : Nat) (z : Int), 0 ≤ z ∧ z ≤ 1048576 ∧ k ≤ T.length ∧ i = .int .i64 k ∧ n = .int .i64 z ∧ Hid (∀ j, j < k → (T.getD j ByteArray.empty).size ≤ 1048576)) (fun _ i => T.length - (intOf i).toNat)
    case atStart => exact ⟨0, _, by omega, by assumption, by omega, rfl, rfl, fun j hj => absurd hj (Nat.not_lt_zero _)⟩
    case round =>
      obtain ⟨k, z, hz0, hz1, hk, rfl, rfl, H0⟩ := hrel
      by_cases hlt : k < T.length
      · obtain ⟨g, o, rfl, hc⟩ := Q0.out k hlt
        have HS : Hid (∀ c : Nat, (T.getD k ByteArray.empty).size ≤ 1048576 → ∀ j, j < k + 1 → (T.getD j ByteArray.empty).size ≤ 1048576) := by
          intro _ h j hj
          by_cases e : j = k
          · subst e; exact h
          · exact H0.out j (by omega)
        generalize T.getD k ByteArray.empty = s at hc HS
        go_wp2
        · go_ret
          exact ⟨rfl, .inl rfl⟩
        · have hs : (s.size : Int) ≤ 1048576 - z := by assumption
          go_round
          case rel => exact ⟨k + 1, z + s.size, by omega, by omega, by omega, by go_num, by go_num, HS.out 0 (by omega)⟩
          case measure => simp [intOf]; omega
      · have H0' : Hid (∀ j, j < T.length → (T.getD j ByteArray.empty).size ≤ 1048576) := fun j hj => H0.out j (by omega)
        go_wp2
        go_loop [7, 9] (fun n i => ∃ (k : Nat) (z : Int), 0 ≤ z ∧ z ≤ 1048576 ∧ k ≤ N.length ∧ i = .int .i64 k ∧ n = .int .i64 z ∧ Hid (∀ j, j < k → (N.getD j ByteArray.empty).size ≤ 1048576)) (fun _ i => N.length - (intOf i).toNat)
        case atStart => exact ⟨0, _, hz0, hz1, by omega, rfl, rfl, fun j hj => absurd hj (Nat.not_lt_zero _)⟩
        case round =>
          obtain ⟨k2, z2, hz20, hz21, hk2, rfl, rfl, H1⟩ := hrel
          by_cases hlt2 : k2 < N.length
          · obtain ⟨g, o, rfl, hc⟩ := Q1.out k2 hlt2
            have HS : Hid (∀ c : Nat, (N.getD k2 ByteArray.empty).size ≤ 1048576 → ∀ j, j < k2 + 1 → (N.getD j ByteArray.empty).size ≤ 1048576) := by
              intro _ h j hj
              by_cases e : j = k2
              · subst e; exact h
              · exact H1.out j (by omega)
            generalize N.getD k2 ByteArray.empty = s at hc HS
            go_wp2
            · go_ret
              exact ⟨rfl, .inl rfl⟩
            · have hs : (s.size : Int) ≤ 1048576 - z2 := by assumption
              go_round
              case rel => exact ⟨k2 + 1, z2 + s.size, by omega, by omega, by omega, by go_num, by go_num, HS.out 0 (by omega)⟩
              case measure => simp [intOf]; omega
          · go_wp2
            go_ret
            exact ⟨rfl, .inr ⟨rfl, b2, b0, b1, H0'.out, fun j hj => H1.out j (by omega)⟩⟩
  · by_cases c0 : T.length ≤ 65536
    · by_cases c1 : N.length ≤ 65536
      · have c2 : ¬ X.length ≤ 1048576 := fun h => hb ⟨c0, c1, h⟩
        clear hb
        go_enter Try.func10, Try.ntmps10
        go_wp2
        go_ret
        exact ⟨rfl, .inl rfl⟩
      · clear hb
        go_enter Try.func10, Try.ntmps10
        go_wp2
        go_ret
        exact ⟨rfl, .inl rfl⟩
    · clear hb
      go_enter Try.func10, Try.ntmps10
      go_wp2
      go_ret
      exact ⟨rfl, .inl rfl⟩
def SaysReach (T N : List ByteArray) (w : World) (e : Ending) (w' : World) : Prop := (∃ n, w' = w.drewN n) ∧ (e = .returned (.bool false) ∨ (e = .returned (.bool true) ∧ T.length = N.length ∧ ∀ j, j < T.length → 0 < (T.getD j ByteArray.empty).size))
set_option maxHeartbeats 2000000 in
theorem reach_any (v0 v1 : Value) (T N : List ByteArray) (w : World) (h0 : ReadsS w v0 T) (h1 : ReadsS w v1 N) (l0 : T.length ≤ 1000000) (l1 : N.length ≤ 1000000) (ls : ∀ j, j < T.length → (T.getD j ByteArray.empty).size ≤ 1048576) :
    Calls Try.prog 11 #[v0, v1] w fun e w' => SaysReach T N w e w' := by
  obtain ⟨p0, c0, rfl, _, q0⟩ := h0
  obtain ⟨p1, c1, rfl, _, q1⟩ := h1
  have Q0 := hide q0
  have LS := hide ls
  clear q0 q1 ls
  by_cases hne : T.length = N.length
  · have hn : ((T.length : Int) != (N.length : Int)) = false := by simp; omega
    have HE := hide hne
    clear hne
    go_enter Try.func11, Try.ntmps11
    go_wp2
    go_loopw [5] (fun i wr => ∃ k n : Nat, k ≤ T.length ∧ i = .int .i64 k ∧ wr = w.drewN n ∧ Hid (∀ j, j < k → 0 < (T.getD j ByteArray.empty).size)) (fun i _ => T.length - (intOf i).toNat)
    case atStart => exact ⟨0, 0, by omega, rfl, rfl, fun j hj => absurd hj (Nat.not_lt_zero _)⟩
    case round =>
      obtain ⟨k, n, hk, rfl, rfl, H0⟩ := hrel
      by_cases hlt : k < T.length
      · obtain ⟨g, o, rfl, hc⟩ := Q0.out k hlt
        have hsl := LS.out k hlt
        have HS : Hid (0 < (T.getD k ByteArray.empty).size → ∀ j, j < k + 1 → 0 < (T.getD j ByteArray.empty).size) := by
          intro h j hj
          by_cases e : j = k
          · subst e; exact h
          · exact H0.out j (by omega)
        cases k with
        | zero =>
          have hd : decide ((0 : Int) < 0) = false := by decide
          generalize T.getD 0 ByteArray.empty = s at hc HS hsl
          rw [Nat.add_zero] at hc
          by_cases hz : (s.size : Int) = 0
          · go_wp2
            go_ret
            exact ⟨⟨_, rfl⟩, .inl rfl⟩
          · have hz' : ((s.size : Int) == 0) = false := by simpa using hz
            have HZ : Hid (0 < s.size) := by show _ < _; omega
            clear hz
            go_wp2
            go_quiet (fail)
            go_wp2
            go_roundw
            case rel => exact ⟨1, _, by omega, by go_num, rfl, HS.out HZ.out⟩
            case measure => simp [intOf]; omega
        | succ k =>
          obtain ⟨g2, o2, e2, hc2⟩ := Q0.out k (by omega)
          simp only [Option.some.injEq, Addr.mk.injEq] at e2
          obtain ⟨rfl, rfl, _⟩ := e2
          have hsl2 := LS.out k (by omega)
          generalize T.getD (k + 1) ByteArray.empty = s at hc HS hsl
          generalize T.getD k ByteArray.empty = s2 at hc2 hsl2
          have e1 : ((k + 1 : Nat) : Int) - 1 = (k : Int) := by omega
          by_cases hz : (s.size : Int) = 0
          · go_wp2
            go_ret
            exact ⟨⟨_, rfl⟩, .inl rfl⟩
          · have hz' : ((s.size : Int) == 0) = false := by simpa using hz
            have HZ : Hid (0 < s.size) := by show _ < _; omega
            clear hz
            by_cases hg : (s2.size : Int) < (s.size : Int)
            · go_wp2
              go_quiet (fail)
              go_wp2
              go_ret
              exact ⟨⟨_, World.drewN_drewN _ _ _⟩, .inl rfl⟩
            · go_wp2
              go_quiet (fail)
              go_wp2
              go_roundw
              case rel => exact ⟨k + 2, _, by omega, by go_num, rfl, HS.out HZ.out⟩
              case measure => simp [intOf]; omega
      · go_wp2
        go_ret
        exact ⟨⟨_, rfl⟩, .inr ⟨rfl, HE.out, fun j hj => H0.out j (by omega)⟩⟩
  · have hn : ((T.length : Int) != (N.length : Int)) = true := by simp; omega
    clear hne
    go_enter Try.func11, Try.ntmps11
    go_wp2
    go_ret
    exact ⟨⟨0, rfl⟩, .inl rfl⟩
end Go.Proofs.Qxb6616271a
