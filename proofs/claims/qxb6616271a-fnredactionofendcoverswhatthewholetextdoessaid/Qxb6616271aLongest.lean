/-
  longestEndAtStart.
-/
import Derived.Test.Qxb6616271aSmall
namespace Go.Proofs.Qxb6616271a
set_option linter.unusedVariables false
open Go.RowKit
open Go.Lib (hasPrefix)
theorem good_iff (X t : List UInt8) (n : Nat) (h1 : n ≤ X.length) (h2 : n ≤ t.length) : good X t n = true ↔ ∀ j, j < n → X.getD j 0 = t.getD (t.length - n + j) 0 := by
  unfold good hasPrefix
  rw [List.isPrefixOf_iff_prefix, List.prefix_iff_eq_take, List.length_drop]
  have e : t.length - (t.length - n) = n := by omega
  rw [e]
  constructor
  · intro h j hj
    have h3 : (t.drop (t.length - n))[j]? = (X.take n)[j]? := by rw [h]
    rw [List.getElem?_drop, List.getElem?_take, if_pos hj] at h3
    rw [List.getD, List.getD, h3]
  · intro h
    apply List.ext_getElem?
    intro j
    rw [List.getElem?_drop, List.getElem?_take]
    by_cases hj : j < n
    · rw [if_pos hj]
      have h3 := h j hj
      rw [List.getD, List.getD, List.getElem?_eq_getElem (show j < X.length by omega), List.getElem?_eq_getElem (show t.length - n + j < t.length by omega)] at h3
      rw [List.getElem?_eq_getElem (show j < X.length by omega), List.getElem?_eq_getElem (show t.length - n + j < t.length by omega)]
      simpa using h3.symm
    · rw [if_neg hj, List.getElem?_eq_none (by omega)]
theorem toNat_bne (a b : UInt8) : ((a.toNat : Int) != (b.toNat : Int)) = !(a == b) := by
  rw [bne]
  congr 1
  rw [Bool.eq_iff_iff]; simp [← UInt8.toNat_inj]; omega
theorem len_eq (s : ByteArray) : s.data.toList.length = s.size := (Lib.size_eq s).symm
theorem getD_at (s : ByteArray) {k : Nat} (h : k < s.size) : s.data.toList.getD k 0 = s[k] := by
  rw [List.getD, List.getElem?_eq_getElem (by rw [len_eq]; exact h)]; rfl
theorem wrapi (n : Int) (h0 : -9223372036854775808 ≤ n) (h1 : n ≤ 9223372036854775807) : IntKind.i64.wrap n = n := by rw [IntKind.wrap_i64]; omega
set_option maxHeartbeats 4000000 in
theorem longest_any (v : Value) (X : List UInt8) (s : ByteArray) (w : World) (h : ReadsB w v X) (hl : X.length ≤ 1000000000) (hs : s.size ≤ 1000000000) (hs0 : 0 < s.size) :
    Calls Try.prog 17 #[v, .string s] w fun e w' => e = .returned (.int .i64 (brk X s.data.toList : Nat)) ∧ ∃ n, w' = w.drewN n := by
  obtain ⟨a, cap, rfl, hcap, hc⟩ := h
  have HC := hide hc
  clear hc
  have EB : Hid (brk X s.data.toList = best X s.data.toList (min X.length (s.size - 1))) := by show _ = _; unfold brk; rw [len_eq]
  generalize brk X s.data.toList = B at EB ⊢
  go_enter Try.func17, Try.ntmps17
  go_wp2
  go_loopw [5, 6] (fun b n wr => ∃ k q m : Nat, 1 ≤ k ∧ k - 1 ≤ X.length ∧ k - 1 ≤ s.size - 1 ∧ n = .int .i64 k ∧ b = .int .i64 m ∧ wr = w.drewN q ∧ Hid (m = best X s.data.toList (k - 1))) (fun _ n _ => X.length + 1 - (intOf n).toNat)
  case atStart => exact ⟨1, 0, 0, by omega, by omega, by omega, rfl, rfl, rfl, rfl⟩
  case round =>
    obtain ⟨k, q, m, h1, h2, h3, rfl, rfl, rfl, HM⟩ := hrel
    by_cases hlt : k < s.size ∧ k ≤ X.length
    · obtain ⟨ha, hb⟩ := hlt
      have GI := hide (good_iff X s.data.toList k hb (by rw [len_eq]; omega))
      have BS : Hid (best X s.data.toList k = if good X s.data.toList k then k else best X s.data.toList (k - 1)) := by
        show _ = _
        obtain ⟨k', rfl⟩ : ∃ k', k = k' + 1 := ⟨k - 1, by omega⟩
        rw [best]; rfl
      go_wp2
      go_loopw [7, 8] (fun ok j wr => ∃ i q2 : Nat, i ≤ k ∧ j = .int .i64 i ∧ ok = .bool true ∧ wr = w.drewN q2 ∧ Hid (∀ r, r < i → X.getD r 0 = s.data.toList.getD (s.data.toList.length - k + r) 0)) (fun _ j _ => k - (intOf j).toNat)
      case atStart => exact ⟨0, _, by omega, rfl, rfl, rfl, fun r hr => absurd hr (Nat.not_lt_zero _)⟩
      case round =>
        obtain ⟨i, q2, hi, rfl, rfl, rfl, HI⟩ := hrel
        by_cases hij : i < k
        · obtain ⟨g, o, rfl, hcx⟩ := HC.out i (by omega)
          have hix : (i : Int) < (X.length : Int) := by omega
          obtain ⟨D, hD⟩ : ∃ D, s.size - k = D := ⟨_, rfl⟩
          obtain ⟨J, hJ⟩ : ∃ J, D + i = J := ⟨_, rfl⟩
          have hlt2 : J < s.size := by omega
          have hlt3 : (J : Int) < (s.size : Int) := by omega
          have hw1 : IntKind.i64.wrap ((s.size : Int) - (k : Int)) = (D : Int) := by rw [wrapi _ (by omega) (by omega)]; omega
          have hw2 : IntKind.i64.wrap ((D : Int) + (i : Int)) = (J : Int) := by rw [wrapi _ (by omega) (by omega)]; omega
          have GD : Hid (s.data.toList.getD (s.data.toList.length - k + i) 0 = s[J]) := by show _ = _; rw [len_eq, hD, hJ]; exact getD_at s hlt2
          clear hD hJ
          have hbn := toNat_bne (X.getD i 0) s[J]
          by_cases hq : (X.getD i 0 == s[J]) = true
          · rw [hq] at hbn
            simp only [Bool.not_true] at hbn
            have HN : Hid (∀ r, r < i + 1 → X.getD r 0 = s.data.toList.getD (s.data.toList.length - k + r) 0) := by
              intro r hr
              by_cases e : r = i
              · subst e; rw [GD.out]; exact beq_iff_eq.1 hq
              · exact HI.out r (by omega)
            clear hq GD HI
            generalize X.getD i 0 = x at hcx hbn
            go_wp2
            go_quiet (fail)
            go_wp2
            go_roundw
            case rel => exact ⟨i + 1, _, by omega, by go_num, rfl, rfl, HN.out⟩
            case measure => simp [intOf]; omega
          · have hq' : (X.getD i 0 == s[J]) = false := by simpa using hq
            rw [hq'] at hbn
            simp only [Bool.not_false] at hbn
            have NG : Hid (good X s.data.toList k = false) := by
              apply Bool.eq_false_iff.2
              intro hg
              have := GI.out.1 hg i hij
              rw [GD.out] at this
              rw [this] at hq'
              simp at hq'
            clear hq hq' GD HI
            generalize X.getD i 0 = x at hcx hbn
            go_wp2
            go_quiet (fail)
            go_wp2
            go_roundw
            case rel => exact ⟨k + 1, _, m, by omega, by omega, by omega, by go_num, rfl, rfl, by rw [show k + 1 - 1 = k from rfl, BS.out, NG.out, HM.out]; exact rfl⟩
            case measure => simp [intOf]; omega
        · have YG : Hid (good X s.data.toList k = true) := GI.out.2 fun j hj => HI.out j (by omega)
          go_wp2
          go_roundw
          case rel => exact ⟨k + 1, _, k, by omega, by omega, by omega, by go_num, rfl, rfl, by rw [show k + 1 - 1 = k from rfl, BS.out, YG.out]; exact rfl⟩
          case measure => simp [intOf]; omega
    · have hmin : min X.length (s.size - 1) = k - 1 := by omega
      have EQ : Hid (B = m) := by show _ = _; rw [EB.out, hmin, HM.out]
      clear hmin
      by_cases ha : k < s.size
      · have hb : ¬ k ≤ X.length := fun h => hlt ⟨ha, h⟩
        clear hlt
        go_wp2
        go_ret
        exact ⟨ret_int (by rw [EQ.out]), _, rfl⟩
      · clear hlt
        go_wp2
        go_ret
        exact ⟨ret_int (by rw [EQ.out]), _, rfl⟩
end Go.Proofs.Qxb6616271a
