/-
  bytes.Index and bytes.HasPrefix in this seat's words; brokenAtStart.
-/
import Derived.Test.Qxb6616271aLongest
import Derived.Test.Qxb6616271aShelf
namespace Go.Proofs.Qxb6616271a
set_option linter.unusedVariables false
open Go.RowKit
open Go.Lib (hasPrefix)
def nums (X : List UInt8) : List Int := X.map fun c => (c.toNat : Int)
theorem nums_length (X : List UInt8) : (nums X).length = X.length := by simp [nums]
theorem nums_bytes (X : List UInt8) : Lib.bytesOf (nums X) = X := by
  unfold Lib.bytesOf nums
  rw [List.map_map]
  conv => rhs; rw [← List.map_id X]
  apply List.map_congr_left
  intro c _
  simp
theorem nums_range (X : List UInt8) : ∀ x ∈ nums X, 0 ≤ x ∧ x < 256 := by
  intro x hx
  simp only [nums, List.mem_map] at hx
  obtain ⟨c, _, rfl⟩ := hx
  have := UInt8.toNat_lt c
  omega
theorem nums_getD (X : List UInt8) (i : Nat) : (nums X).getD i 0 = ((X.getD i 0).toNat : Int) := by
  unfold nums
  rw [List.getD, List.getElem?_map, List.getD]
  cases X[i]? <;> rfl
theorem addr_add (b o j : Nat) : (⟨b, o, none⟩ : Addr).add j = ⟨b, o + j, none⟩ := by
  unfold Addr.add
  split
  · rename_i h; subst h; rfl
  · rfl
/-- The bytes l lie at place o of block g. -/
def Lies (w : World) (g o : Nat) (l : List UInt8) : Prop := ∀ j, j < l.length → w.cell? ⟨g, o + j, none⟩ = some (.int .u8 ((l.getD j 0).toNat : Int))
theorem Lies.drop {w : World} {g o : Nat} {l : List UInt8} (h : Lies w g o l) (k : Nat) : Lies w g (o + k) (l.drop k) := by
  intro j hj
  rw [List.length_drop] at hj
  have := h (k + j) (by omega)
  rw [Nat.add_assoc, this, List.getD, List.getD, List.getElem?_drop]
theorem index_any (g1 o1 c1 g2 o2 c2 : Nat) (X t : List UInt8) (m : Int) (w : World) (h1 : Lies w g1 o1 X) (h2 : Lies w g2 o2 t) (hc : X.length ≤ c1) (hl : X.length ≤ 1000000000) (ht : t.length ≤ 1000000000) (hm : w.cell? ⟨0, 0, none⟩ = some (.int .i64 m)) :
    Calls Try.prog 21 #[.slice (some ⟨g1, o1, none⟩) X.length c1, .slice (some ⟨g2, o2, none⟩) t.length c2] w fun e w' => e = .returned (.int .i64 (Lib.index X t)) ∧ ∃ q, w' = w.drewN q := by
  have h := Try.bytes_Index_at ⟨g1, o1, none⟩ ⟨g2, o2, none⟩ X.length c1 t.length c2 (nums X) (nums t) m w (nums_length X) (nums_length t) (nums_range X) (nums_range t)
    (fun i hi => by rw [addr_add, nums_getD]; exact h1 i hi) (fun i hi => by rw [addr_add, nums_getD]; exact h2 i hi) hc (by omega) (by omega) hm
  rw [nums_bytes, nums_bytes] at h
  exact h
theorem prefix_any (p1 p2 : Option Addr) (c1 c2 : Nat) (X t : List UInt8) (w : World) (h1 : ∀ j, j < X.length → ∃ g o, p1 = some ⟨g, o, none⟩ ∧ w.cell? ⟨g, o + j, none⟩ = some (.int .u8 ((X.getD j 0).toNat : Int)))
    (h2 : ∀ j, j < t.length → ∃ g o, p2 = some ⟨g, o, none⟩ ∧ w.cell? ⟨g, o + j, none⟩ = some (.int .u8 ((t.getD j 0).toNat : Int))) (hc : X.length ≤ c1) :
    Calls Try.prog 32 #[.slice p1 X.length c1, .slice p2 t.length c2] w fun e w' => e = .returned (.bool (hasPrefix X t)) ∧ w' = w := by
  have h := Try.bytes_HasPrefix_all p1 p2 X.length c1 t.length c2 (nums X) (nums t) w (nums_length X) (nums_length t) hc ?_ ?_
  · rw [nums_bytes, nums_bytes] at h
    exact h
  · intro hn
    obtain ⟨g, o, rfl, _⟩ := h1 0 hn
    refine ⟨g, o, rfl, fun i hi => ?_⟩
    obtain ⟨g', o', e, h⟩ := h1 i hi
    simp only [Option.some.injEq, Addr.mk.injEq] at e
    obtain ⟨rfl, rfl, _⟩ := e
    rw [nums_getD]
    exact h
  · intro hn
    obtain ⟨g, o, rfl, _⟩ := h2 0 hn
    refine ⟨g, o, rfl, fun i hi => ?_⟩
    obtain ⟨g', o', e, h⟩ := h2 i hi
    simp only [Option.some.injEq, Addr.mk.injEq] at e
    obtain ⟨rfl, rfl, _⟩ := e
    rw [nums_getD]
    exact h
set_option maxHeartbeats 1000000 in
theorem broken_any (v : Value) (X t : List UInt8) (gu ou cu : Nat) (w : World) (h : ReadsB w v X) (hu : Lies w gu ou t) (hl : X.length ≤ 1000000000) (ht : t.length ≤ 1000000000) (ht0 : 0 < t.length) (hcu : t.length ≤ cu) (hcm : cu ≤ maxLen) :
    Calls Try.prog 23 #[v, .slice (some ⟨gu, ou, none⟩) t.length cu] w fun e w' => e = .returned (.int .i64 (brk X t : Nat)) ∧ w' = w := by
  obtain ⟨a, cap, rfl, hcap, hc⟩ := h
  have HC := hide hc
  have HU := hide hu
  clear hc hu
  unfold maxLen at hcm
  have EB : Hid (brk X t = best X t (min X.length (t.length - 1))) := rfl
  generalize brk X t = B at EB ⊢
  have hmin : min (X.length : Int) ((t.length : Int) - 1) = ((min X.length (t.length - 1) : Nat) : Int) := by omega
  obtain ⟨M, hM⟩ : ∃ M, min X.length (t.length - 1) = M := ⟨_, rfl⟩
  rw [hM] at hmin
  have hM1 : M ≤ X.length := by omega
  have hM2 : M + 1 ≤ t.length := by omega
  rw [hM] at EB
  clear hM
  go_enter Try.func23, Try.ntmps23
  go_wp2
  go_loop [5] (fun n => ∃ k : Nat, k ≤ M ∧ n = .int .i64 k ∧ Hid (B = best X t k)) (fun n => (intOf n).toNat)
  case atStart => exact ⟨M, by omega, rfl, EB⟩
  case round =>
    clear EB
    obtain ⟨k, hk, rfl, HB⟩ := hrel
    cases k with
    | zero =>
      go_wp2
      go_ret
      exact ⟨ret_int (by rw [HB.out]; rfl), rfl⟩
    | succ k =>
      have e1 : ((t.length : Int) - ((k + 1 : Nat) : Int)) = ((t.length - (k + 1) : Nat) : Int) := by omega
      have e2 : ((k + 1 : Nat) : Int) - 1 = (k : Int) := by omega
      have PF := prefix_any a (some ⟨gu, ou + (t.length - (k + 1)), none⟩) cap (cu - (t.length - (k + 1))) X (t.drop (t.length - (k + 1))) w HC.out (fun j hj => ⟨gu, _, rfl, HU.out.drop _ j hj⟩) hcap
      have BS : Hid (best X t (k + 1) = if good X t (k + 1) then k + 1 else best X t k) := rfl
      have GD : Hid (good X t (k + 1) = hasPrefix X (t.drop (t.length - (k + 1)))) := rfl
      rw [List.length_drop] at PF
      rw [← GD.out] at PF
      have PF' := hide PF
      clear PF GD
      generalize good X t (k + 1) = gd at PF' BS
      cases gd with
      | true =>
        go_wp2_with (go_at_call 32; refine PF'.out.mono ?_; rintro e w' ⟨rfl, rfl⟩)
        go_ret
        exact ⟨ret_int (by rw [HB.out, BS.out]; simp), rfl⟩
      | false =>
        go_wp2_with (go_at_call 32; refine PF'.out.mono ?_; rintro e w' ⟨rfl, rfl⟩)
        go_round
        case rel => exact ⟨k, by omega, by go_num, by rw [HB.out, BS.out]; exact rfl⟩
        case measure => simp [intOf]
end Go.Proofs.Qxb6616271a
