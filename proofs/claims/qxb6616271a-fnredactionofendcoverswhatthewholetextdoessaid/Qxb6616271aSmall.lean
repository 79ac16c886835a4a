/-
  cloneBytes, longestEndAtStart, coveredAt, mark.
-/
import Derived.Test.Qxb6616271aGuards
import Derived.Test.Qxb6616271aPlain
import Derived.WalkSpells
import Derived.Laws.OwnMore
namespace Go.Proofs.Qxb6616271a
set_option linter.unusedVariables false
open Go.RowKit
theorem ret_int {k : IntKind} {a b : Int} (h : a = b) : Ending.returned (.int k a) = .returned (.int k b) := by rw [h]
theorem Try.info5 : (Try.prog.info? 5).map (fun i => (i.zero, i.size, i.bytes)) = some (some (.int .u8 0), 1, 1) := by kernel_rfl
def bytesV (X : List UInt8) : List Value := X.map fun c => Value.int .u8 (c.toNat : Int)
theorem reads_bytes {H : Nat} {w : World} {g cap : Nat} {X : List UInt8} (h : w.ownsRow H 5 1 (.slice (some ⟨g, 0, none⟩) X.length cap) X.length (bytesV X)) : ReadsB w (.slice (some ⟨g, 0, none⟩) X.length cap) X := by
  have hc : X.length ≤ cap := by
    rcases h.2 with ⟨h', _⟩ | ⟨_, _, _, h', _, _, hc, _⟩
    · simp at h'
    · simp only [Value.slice.injEq] at h'
      omega
  refine ⟨_, cap, rfl, hc, fun j hj => ⟨g, 0, rfl, ?_⟩⟩
  rw [Nat.zero_add, h.cellAt j (by omega)]
  simp [bytesV, List.getD, List.getElem?_eq_getElem hj]
/-- A row of which the first k cells are filled. -/
def Filled (X : List UInt8) (k : Nat) (xs : List Value) : Prop := ∀ j, j < X.length → j < k → xs[j]? = some (.int .u8 ((X.getD j 0).toNat : Int))
theorem Filled.set {X : List UInt8} {k : Nat} {xs : List Value} (h : Filled X k xs) (hl : k < xs.length) : Filled X (k + 1) (xs.set k (.int .u8 ((X.getD k 0).toNat : Int))) := by
  intro j hj hjk
  rw [List.getElem?_set]
  by_cases e : k = j
  · subst e; simp [hl]
  · rw [if_neg e]; exact h j hj (by omega)
theorem Filled.all {X : List UInt8} {xs : List Value} (h : Filled X X.length xs) (hl : xs.length = X.length) : xs = bytesV X := by
  apply List.ext_getElem?
  intro j
  by_cases hj : j < X.length
  · rw [h j hj hj]; simp [bytesV, List.getD, List.getElem?_eq_getElem hj]
  · rw [List.getElem?_eq_none (by omega), List.getElem?_eq_none (by simp [bytesV]; omega)]
set_option maxHeartbeats 1000000 in
theorem clone_any (v : Value) (X : List UInt8) (w : World) (h : ReadsB w v X) (hl : X.length ≤ 1000000000) :
    Calls Try.prog 12 #[v] w fun e w' => ∃ v', e = .returned v' ∧ ReadsB w' v' X ∧ Below w.heap.size w w' := by
  have hnil := fun (a : Option Addr) (n c : Nat) (w : World) => Lib.run_eql_slice_nil (P := Try.prog) w 30 5 a n c 0 0 Try.underlying30
  obtain ⟨a, cap, rfl, hcap, hc⟩ := h
  have HC := hide hc
  clear hc
  cases a with
  | none =>
    have hX : X.length = 0 := by
      apply Classical.byContradiction
      intro hn
      obtain ⟨g, o, h, _⟩ := HC.out 0 (by omega)
      cases h
    have hX' : X = [] := List.eq_nil_of_length_eq_zero hX
    subst hX'
    go_enter Try.func12, Try.ntmps12
    go_wp2
    go_ret
    exact ⟨_, rfl, ⟨none, 0, rfl, Nat.le_refl _, fun j hj => by simp at hj⟩, Below.refl _ _⟩
  | some ad =>
    obtain ⟨i0, hi, hz0, hz1, hz2⟩ := info_parts Try.info5
    go_enter Try.func12, Try.ntmps12
    go_wp2_with (at_make; refine wpList_make_full _ rfl (.tmp 8) (.tmp 8) 30 rfl w.heap.size 5 i0 (.int .u8 0) 1 Try.underlying30 hi hz0 hz1 .i64 .i64 _ _ X.length rfl rfl rfl rfl (by rw [hz2]; omega) (by unfold maxLen; omega) (Nat.le_refl _) ?_; intro w1 hown hgrow)
    have hb0 : Below w.heap.size w w1 := (Below.refl _ _).grown hgrow (Nat.le_refl _) (fun k h => by cases h)
    clear hgrow
    go_loopw [4] (fun i wr => ∃ k : Nat, k ≤ X.length ∧ i = .int .i64 k ∧ Hid (Below w.heap.size w wr) ∧ ∃ xs, Hid (Filled X k xs) ∧ Hid (wr.ownsRow w.heap.size 5 1 (.slice (some ⟨w.heap.size, 0, none⟩) X.length X.length) X.length xs)) (fun i _ => X.length - (intOf i).toNat)
    case atStart => exact ⟨0, by omega, rfl, hb0, _, (fun _ _ h => absurd h (Nat.not_lt_zero _)), hown⟩
    case round =>
      clear hown hb0
      obtain ⟨k, hk, rfl, HB, xs, HF, HO⟩ := hrel
      by_cases hlt : k < X.length
      · obtain ⟨g, o, e, hc1⟩ := HC.out k hlt
        simp only [Option.some.injEq] at e
        subst e
        have hc2 : wr.cell? ⟨g, o + k, none⟩ = some (.int .u8 ((X.getD k 0).toNat : Int)) := by
          rw [HB.out.cell (p := ⟨g, o + k, none⟩) (World.block_lt_of_cell? w ⟨g, o + k, none⟩ hc1)]; exact hc1
        clear hc1
        have hl1 : k < xs.length := by have := HO.out.1; omega
        have hce : wr.cell? ⟨w.heap.size, k, none⟩ = some (xs[k]'hl1) := by rw [HO.out.cellAt k (by omega)]; exact List.getElem?_eq_getElem hl1
        have hfz : wr.frozen? ⟨w.heap.size, k, none⟩ = false := HO.out.frozenAt k
        have KEY : Hid (∃ ys, Filled X (k + 1) ys ∧ (wr.setCell ⟨w.heap.size, k, none⟩ (.int .u8 ((X.getD k 0).toNat : Int))).ownsRow w.heap.size 5 1 (.slice (some ⟨w.heap.size, 0, none⟩) X.length X.length) X.length ys) :=
          ⟨_, HF.out.set hl1, (HO.out.stored k _).1⟩
        have HB' : Hid (∀ u, Below w.heap.size w (wr.setCell ⟨w.heap.size, k, none⟩ u)) := fun u => HB.out.setCell (by simp) u
        generalize (X.getD k 0).toNat = b at hc2 KEY
        go_wp2
        go_roundw
        case rel => obtain ⟨ys, y1, y2⟩ := KEY.out; exact ⟨k + 1, by omega, by go_num, HB'.out _, ys, y1, y2⟩
        case measure => simp [intOf]; omega
      · have e : k = X.length := by omega
        subst e
        have ex := HF.out.all (by have := HO.out.1; omega)
        subst ex
        have RB := hide (reads_bytes HO.out)
        go_wp2
        go_ret
        exact ⟨_, rfl, RB.out, HB.out⟩
/-- THE VALUE v IS WHAT 'covered' HOLDS. -/
def ReadsC (w : World) (v : Value) : Option (List Int) → Prop
  | none => v = .slice none 0 0
  | some c => ∃ g o cap, v = .slice (some ⟨g, o, none⟩) c.length cap ∧ ∀ j, j < c.length → w.cell? ⟨g, o + j, none⟩ = some (.int .i32 (c.getD j 0))
theorem ReadsC.below {w w' : World} {v : Value} {C : Option (List Int)} (h : ReadsC w v C) (hb : Below w.heap.size w w') : ReadsC w' v C := by
  cases C with
  | none => exact h
  | some c =>
    obtain ⟨g, o, cap, rfl, hc⟩ := h
    exact ⟨g, o, cap, rfl, fun j hj => by rw [hb.cell (p := ⟨g, o + j, none⟩) (World.block_lt_of_cell? w ⟨g, o + j, none⟩ (hc j hj))]; exact hc j hj⟩
set_option maxHeartbeats 1000000 in
theorem covered_any (v : Value) (C : Option (List Int)) (p n : Nat) (w : World) (h : ReadsC w v C) (hs : Sized n C) (hp : p < n) (hn : n ≤ 1000000000) :
    Calls Try.prog 18 #[v, .int .i64 p] w fun e w' => e = .returned (.int .i32 (at0 C p)) ∧ w' = w := by
  have hnil := fun (a : Option Addr) (n c : Nat) (w : World) => Lib.run_eql_slice_nil (P := Try.prog) w 39 21 a n c 0 0 Try.underlying39
  cases C with
  | none =>
    obtain rfl : v = .slice none 0 0 := h
    go_enter Try.func18, Try.ntmps18
    go_wp2
    go_ret
    exact ⟨rfl, rfl⟩
  | some c =>
    obtain ⟨g, o, cap, rfl, hc⟩ := h
    have hl := hs c rfl
    have hc1 := hc p (by omega)
    have hlt : p < c.length := by omega
    have e : at0 (some c) p = c.getD p 0 := rfl
    rw [e]
    clear hc hl e
    generalize c.getD p 0 = x at hc1 ⊢
    go_enter Try.func18, Try.ntmps18
    go_wp2
    go_ret
    exact ⟨rfl, rfl⟩
def markB (s : ByteArray) : ByteArray := { data := #[91, 115, 101, 99, 114, 101, 116, 58] } ++ s ++ { data := #[93] }
set_option maxHeartbeats 1000000 in
theorem mark_any (s : ByteArray) (w : World) (hs : s.size ≤ 1000000000) :
    Calls Try.prog 24 #[.string s] w fun e w' => e = .returned (.string (markB s)) ∧ w = w' := by
  go_enter Try.func24, Try.ntmps24
  go_wp2
  go_ret
  exact ⟨rfl, rfl⟩
end Go.Proofs.Qxb6616271a
