/-
  asciiLower, swapASCIICase.
-/
import Derived.Test.Qxb6616246aHeader
import Derived.Test.Qxb6616246aLaw
import Derived.Laws.IdiomStrings
import Derived.Laws.OwnMore
namespace Go.Proofs.Qxb6616246a
set_option linter.unusedVariables false
open Go.RowKit
def lowB (s : ByteArray) : ByteArray := ⟨(s.data.toList.map lowC).toArray⟩
theorem lowC_up (c : UInt8) (h1 : (65 : Int) ≤ (c.toNat : Int)) (h2 : (c.toNat : Int) ≤ 90) : ((lowC c).toNat : Int) = (c.toNat : Int) + 32 := by
  unfold lowC
  rw [if_pos ⟨by rw [UInt8.le_iff_toNat_le]; exact Int.ofNat_le.1 h1, by rw [UInt8.le_iff_toNat_le]; exact Int.ofNat_le.1 h2⟩]
  rw [UInt8.toNat_add]
  have : (32 : UInt8).toNat = 32 := rfl
  omega
theorem lowC_not (c : UInt8) (h : ¬ ((65 : Int) ≤ (c.toNat : Int) ∧ (c.toNat : Int) ≤ 90)) : lowC c = c := by
  unfold lowC
  rw [if_neg]
  rintro ⟨h1, h2⟩
  rw [UInt8.le_iff_toNat_le] at h1 h2
  exact h ⟨Int.ofNat_le.2 h1, Int.ofNat_le.2 h2⟩
theorem Try.info5 : (Try.prog.info? 5).map (fun i => (i.zero, i.size, i.bytes)) = some (some (.int .u8 0), 1, 1) := by kernel_rfl
/-- A row of bytes of which the first k are f's. -/
def Filled (f : UInt8 → UInt8) (s : ByteArray) (k : Nat) (xs : List Value) : Prop := ∀ j (h : j < s.size), j < k → xs[j]? = some (.int .u8 ((f s[j]).toNat : Int))
theorem Filled.set {f : UInt8 → UInt8} {s : ByteArray} {k : Nat} {xs : List Value} (h : Filled f s k xs) (hk : k < s.size) (hl : k < xs.length) : Filled f s (k + 1) (xs.set k (.int .u8 ((f s[k]).toNat : Int))) := by
  intro j hj hjk
  rw [List.getElem?_set]
  by_cases e : k = j
  · subst e; simp [hl]
  · rw [if_neg e]; exact h j hj (by omega)
theorem addr_add (b o j : Nat) : (⟨b, o, none⟩ : Addr).add j = ⟨b, o + j, none⟩ := by
  unfold Addr.add
  split
  · rename_i h; subst h; rfl
  · rfl
set_option maxHeartbeats 1000000 in
theorem lower_any (s : ByteArray) (w : World) (hs : s.size ≤ 1000000000) :
    Calls Try.prog 7 #[.string s] w fun e w' => e = .returned (.string (lowB s)) ∧ Below w.heap.size w w' := by
  obtain ⟨i0, hi, hz0, hz1, hz2⟩ := info_parts Try.info5
  go_enter Try.func7, Try.ntmps7
  go_wp2_with (at_make; refine wpList_make_full _ rfl (.tmp 7) (.tmp 7) 35 rfl w.heap.size 5 i0 (.int .u8 0) 1 Try.underlying35 hi hz0 hz1 .i64 .i64 _ _ s.size rfl rfl rfl rfl (by rw [hz2]; omega) (by unfold maxLen; omega) (Nat.le_refl _) ?_; intro w1 hown hgrow)
  have hb0 : Below w.heap.size w w1 := (Below.refl _ _).grown hgrow (Nat.le_refl _) (fun k h => by cases h)
  clear hgrow
  go_loopw [4] (fun i wr => ∃ k : Nat, k ≤ s.size ∧ i = .int .i64 k ∧ Below w.heap.size w wr ∧ ∃ xs, Filled lowC s k xs ∧ wr.ownsRow w.heap.size 5 1 (.slice (some ⟨w.heap.size, 0, none⟩) s.size s.size) s.size xs) (fun i _ => s.size - (intOf i).toNat)
  case atStart => exact ⟨0, by omega, rfl, hb0, _, (fun _ _ h => absurd h (Nat.not_lt_zero _)), hown⟩
  case round =>
    clear hown hb0
    obtain ⟨k, hk, rfl, hb, xs, hf, ho⟩ := hrel
    have HF := hide hf
    have HO := hide ho
    have HB := hide hb
    clear hf ho hb
    by_cases hlt : k < s.size
    · have hl : k < xs.length := by have := HO.out.1; omega
      have hc : wr.cell? ⟨w.heap.size, k, none⟩ = some (xs[k]'hl) := by rw [HO.out.cellAt k (by omega)]; exact List.getElem?_eq_getElem hl
      have hfz : wr.frozen? ⟨w.heap.size, k, none⟩ = false := HO.out.frozenAt k
      have key : ∀ u : Int, u = ((lowC s[k]).toNat : Int) → ∃ ys, Filled lowC s (k + 1) ys ∧ (wr.setCell ⟨w.heap.size, k, none⟩ (.int .u8 u)).ownsRow w.heap.size 5 1 (.slice (some ⟨w.heap.size, 0, none⟩) s.size s.size) s.size ys := by
        rintro u rfl
        exact ⟨_, HF.out.set hlt hl, (HO.out.stored k _).1⟩
      have hb' : ∀ u, Below w.heap.size w (wr.setCell ⟨w.heap.size, k, none⟩ u) := fun u => HB.out.setCell (by simp) u
      have KEY := hide key
      have HB' := hide hb'
      clear key hb'
      by_cases hu : (65 : Int) ≤ (s[k].toNat : Int) ∧ (s[k].toNat : Int) ≤ 90
      · obtain ⟨h1, h2⟩ := hu
        go_wp2
        go_roundw
        case rel => exact ⟨k + 1, by omega, by go_num, HB'.out _, KEY.out _ (lowC_up s[k] h1 h2).symm⟩
        case measure => simp [intOf]; omega
      · go_wp2
        all_goals
          go_roundw
          case rel => exact ⟨k + 1, by omega, by go_num, HB'.out _, KEY.out _ (by rw [lowC_not s[k] hu])⟩
          case measure => simp [intOf]; omega
    · have hk' : k = s.size := by omega
      subst hk'
      have hcv := run_convert_bytes_back (P := Try.prog) wr 35 9 5 ⟨w.heap.size, 0, none⟩ s.size (s.data.toList.map lowC) Try.underlying35 Try.underlying5 Try.underlying9 (fun j hj => by
        have hj' : j < s.size := by rw [List.length_map, len_eq] at hj; exact hj
        have h1 := HO.out.cellAt j (by omega)
        rw [HF.out j hj' hj'] at h1
        rw [addr_add, Nat.zero_add, h1, List.getElem_map]
        rfl)
      rw [List.length_map, len_eq] at hcv
      go_wp2
      go_ret
      exact ⟨rfl, HB.out⟩
def swapB (s : ByteArray) : ByteArray := ⟨(s.data.toList.map swapC).toArray⟩
theorem swapC_up (c : UInt8) (h1 : (65 : Int) ≤ (c.toNat : Int)) (h2 : (c.toNat : Int) ≤ 90) : ((swapC c).toNat : Int) = (c.toNat : Int) + 32 := by
  unfold swapC
  rw [if_pos ⟨by rw [UInt8.le_iff_toNat_le]; exact Int.ofNat_le.1 h1, by rw [UInt8.le_iff_toNat_le]; exact Int.ofNat_le.1 h2⟩]
  rw [UInt8.toNat_add]
  have : (32 : UInt8).toNat = 32 := rfl
  omega
theorem swapC_down (c : UInt8) (h1 : (97 : Int) ≤ (c.toNat : Int)) (h2 : (c.toNat : Int) ≤ 122) : ((swapC c).toNat : Int) = (c.toNat : Int) - 32 := by
  unfold swapC
  have e32 : (32 : UInt8).toNat = 32 := rfl
  rw [if_neg, if_pos ⟨by rw [UInt8.le_iff_toNat_le]; exact Int.ofNat_le.1 h1, by rw [UInt8.le_iff_toNat_le]; exact Int.ofNat_le.1 h2⟩, UInt8.toNat_sub_of_le]
  · omega
  · rw [UInt8.le_iff_toNat_le]; omega
  · rintro ⟨_, h⟩
    rw [UInt8.le_iff_toNat_le] at h
    have : (90 : UInt8).toNat = 90 := rfl
    omega
theorem swapC_not (c : UInt8) (h : ¬ ((65 : Int) ≤ (c.toNat : Int) ∧ (c.toNat : Int) ≤ 90)) (h' : ¬ ((97 : Int) ≤ (c.toNat : Int) ∧ (c.toNat : Int) ≤ 122)) : swapC c = c := by
  unfold swapC
  rw [if_neg, if_neg]
  · rintro ⟨h1, h2⟩
    rw [UInt8.le_iff_toNat_le] at h1 h2
    exact h' ⟨Int.ofNat_le.2 h1, Int.ofNat_le.2 h2⟩
  · rintro ⟨h1, h2⟩
    rw [UInt8.le_iff_toNat_le] at h1 h2
    exact h ⟨Int.ofNat_le.2 h1, Int.ofNat_le.2 h2⟩
set_option maxHeartbeats 1000000 in
theorem swap_any (s : ByteArray) (w : World) (hs : s.size ≤ 1000000000) :
    Calls Try.prog 16 #[.string s] w fun e w' => e = .returned (.string (swapB s)) ∧ Below w.heap.size w w' := by
  obtain ⟨i0, hi, hz0, hz1, hz2⟩ := info_parts Try.info5
  go_enter Try.func16, Try.ntmps16
  go_wp2_with (at_make; refine wpList_make_full _ rfl (.tmp 7) (.tmp 7) 35 rfl w.heap.size 5 i0 (.int .u8 0) 1 Try.underlying35 hi hz0 hz1 .i64 .i64 _ _ s.size rfl rfl rfl rfl (by rw [hz2]; omega) (by unfold maxLen; omega) (Nat.le_refl _) ?_; intro w1 hown hgrow)
  have hb0 : Below w.heap.size w w1 := (Below.refl _ _).grown hgrow (Nat.le_refl _) (fun k h => by cases h)
  clear hgrow
  go_loopw [4] (fun i wr => ∃ k : Nat, k ≤ s.size ∧ i = .int .i64 k ∧ Below w.heap.size w wr ∧ ∃ xs, Filled swapC s k xs ∧ wr.ownsRow w.heap.size 5 1 (.slice (some ⟨w.heap.size, 0, none⟩) s.size s.size) s.size xs) (fun i _ => s.size - (intOf i).toNat)
  case atStart => exact ⟨0, by omega, rfl, hb0, _, (fun _ _ h => absurd h (Nat.not_lt_zero _)), hown⟩
  case round =>
    clear hown hb0
    obtain ⟨k, hk, rfl, hb, xs, hf, ho⟩ := hrel
    have HF := hide hf
    have HO := hide ho
    have HB := hide hb
    clear hf ho hb
    by_cases hlt : k < s.size
    · have hl : k < xs.length := by have := HO.out.1; omega
      have hc : wr.cell? ⟨w.heap.size, k, none⟩ = some (xs[k]'hl) := by rw [HO.out.cellAt k (by omega)]; exact List.getElem?_eq_getElem hl
      have hfz : wr.frozen? ⟨w.heap.size, k, none⟩ = false := HO.out.frozenAt k
      have key : ∀ u : Int, u = ((swapC s[k]).toNat : Int) → ∃ ys, Filled swapC s (k + 1) ys ∧ (wr.setCell ⟨w.heap.size, k, none⟩ (.int .u8 u)).ownsRow w.heap.size 5 1 (.slice (some ⟨w.heap.size, 0, none⟩) s.size s.size) s.size ys := by
        rintro u rfl
        exact ⟨_, HF.out.set hlt hl, (HO.out.stored k _).1⟩
      have hb' : ∀ u, Below w.heap.size w (wr.setCell ⟨w.heap.size, k, none⟩ u) := fun u => HB.out.setCell (by simp) u
      have KEY := hide key
      have HB' := hide hb'
      clear key hb'
      by_cases hu : (65 : Int) ≤ (s[k].toNat : Int) ∧ (s[k].toNat : Int) ≤ 90
      · obtain ⟨h1, h2⟩ := hu
        go_wp2
        go_roundw
        case rel => exact ⟨k + 1, by omega, by go_num, HB'.out _, KEY.out _ (swapC_up s[k] h1 h2).symm⟩
        case measure => simp [intOf]; omega
      · by_cases hd : (97 : Int) ≤ (s[k].toNat : Int) ∧ (s[k].toNat : Int) ≤ 122
        · obtain ⟨h1, h2⟩ := hd
          have h3 : ¬ (s[k].toNat : Int) ≤ 90 := by omega
          clear hu
          go_wp2
          go_roundw
          case rel => exact ⟨k + 1, by omega, by go_num, HB'.out _, KEY.out _ (swapC_down s[k] h1 h2).symm⟩
          case measure => simp [intOf]; omega
        · go_wp2
          all_goals
            go_roundw
            case rel => exact ⟨k + 1, by omega, by go_num, HB'.out _, KEY.out _ (by rw [swapC_not s[k] hu hd])⟩
            case measure => simp [intOf]; omega
    · have hk' : k = s.size := by omega
      subst hk'
      have hcv := run_convert_bytes_back (P := Try.prog) wr 35 9 5 ⟨w.heap.size, 0, none⟩ s.size (s.data.toList.map swapC) Try.underlying35 Try.underlying5 Try.underlying9 (fun j hj => by
        have hj' : j < s.size := by rw [List.length_map, len_eq] at hj; exact hj
        have h1 := HO.out.cellAt j (by omega)
        rw [HF.out j hj' hj'] at h1
        rw [addr_add, Nat.zero_add, h1, List.getElem_map]
        rfl)
      rw [List.length_map, len_eq] at hcv
      go_wp2
      go_ret
      exact ⟨rfl, HB.out⟩
end Go.Proofs.Qxb6616246a
