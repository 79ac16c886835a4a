/-
  occurrences with the closure of authorizationHeaders.
-/
import Derived.Test.Qxb6616246aMatch
import Derived.Test.Qxb6616246aScan
import Derived.Test.Qxb6616246aShelf
namespace Go.Proofs.Qxb6616246a
set_option linter.unusedVariables false
open Go.RowKit
def nameB : ByteArray := ⟨#[97, 117, 116, 104, 111, 114, 105, 122, 97, 116, 105, 111, 110]⟩
theorem index_any (lo : ByteArray) (k : Nat) (m : Int) (w : World) (hlo : lo.size ≤ 1000000000) (hm : w.cell? ⟨0, 0, none⟩ = some (.int .i64 m)) :
    Calls Try.prog 37 #[.string (lo.extract k lo.size), .string ⟨#[97, 117, 116, 104, 111, 114, 105, 122, 97, 116, 105, 111, 110]⟩] w fun e w' => e = .returned (.int .i64 (Lib.index (lo.data.toList.drop k) nameL)) ∧ w' = w := by
  have h := Try.strings_Index (lo.extract k lo.size) ⟨#[97, 117, 116, 104, 111, 114, 105, 122, 97, 116, 105, 111, 110]⟩ m w (by rw [ByteArray.size_extract]; omega) hm
  rw [Lib.extract_to_end] at h
  exact h
theorem Still.cell {base B : Nat} {w w' : World} (h : Still base B w w') {k o : Nat} {v : Value} {cs : Array Value} {e : TypeId} {f : Nat × Nat} (hh : w.heap[k]? = some (.cells cs e f)) (hB : k ≠ B) (he : e ≠ 46) (hc : w.cell? ⟨k, o, none⟩ = some v) : w'.cell? ⟨k, o, none⟩ = some v := by
  have := h.block k (lt_of_block hh) hB (.inr fun cs' f' h' => by rw [hh] at h'; simp only [Option.some.injEq, Obj.cells.injEq] at h'; exact he h'.2.1)
  rw [World.cell?_of_block (a := ⟨k, o, none⟩) this]; exact hc
theorem Still.cell0 {base B : Nat} {w w' : World} (h : Still base B w w') {k o : Nat} {v : Value} (hB : k ≠ B) (hb : k < base) (hc : w.cell? ⟨k, o, none⟩ = some v) : w'.cell? ⟨k, o, none⟩ = some v := by
  have := h.block k (World.block_lt_of_cell? w ⟨k, o, none⟩ hc) hB (.inl hb)
  rw [World.cell?_of_block (a := ⟨k, o, none⟩) this]; exact hc
set_option maxHeartbeats 2000000 in
theorem occ_any (base B Bt Bs : Nat) (t lo : ByteArray) (sp : List (Int × Int)) (m : Int) (w : World) (hs : t.size ≤ 900000000) (hlo : lo.size = t.size) (hsl : sp.length ≤ 10000)
    (h0 : 0 < base) (hB0 : 0 < B) (hm : w.cell? ⟨0, 0, none⟩ = some (.int .i64 m))
    (ht : w.heap[Bt]? = some (.cells #[.string t] 9 (0, 0))) (hsc : w.heap[Bs]? = some (.cells #[.pointer (some ⟨B, 0, none⟩)] 28 (0, 0))) (hBt : Bt ≠ B) (hBs : Bs ≠ B)
    (h : ScanAt w base B t lo sp) (hb : base ≤ w.heap.size) :
    Calls Try.prog 27 #[.string lo, .string ⟨#[97, 117, 116, 104, 111, 114, 105, 122, 97, 116, 105, 111, 110]⟩, .func (.func 28) #[] #[.pointer (some ⟨Bt, 0, none⟩), .pointer (some ⟨Bs, 0, none⟩)]] w fun e w' =>
      e = .returned (.tuple #[]) ∧ ScanAt w' base B t lo (sp ++ scan t.data.toList lo.data.toList 0) ∧ Still base B w w' := by
  obtain ⟨T, hT⟩ : ∃ T, T = scan t.data.toList lo.data.toList 0 := ⟨_, rfl⟩
  rw [← hT]
  have HLO := hide hlo
  have HM := hide hm
  have HT := hide ht
  have HSC := hide hsc
  have HH := hide h
  have hle : lo.size ≤ 900000000 := by omega
  have HT0 := hide hT
  clear hm ht hsc h hT hlo
  go_enter Try.func27, Try.ntmps27
  go_wp2
  go_loopw [6, 7] (fun f _ wr => ∃ (k : Nat) (D : List (Int × Int)), k ≤ lo.size ∧ f = .int .i64 k ∧ D.length ≤ k ∧ Hid (T = D ++ scan t.data.toList lo.data.toList k) ∧ Hid (ScanAt wr base B t lo (sp ++ D)) ∧ Hid (Still base B w wr)) (fun f _ _ => lo.size - (intOf f).toNat)
  case atStart => exact ⟨0, [], by omega, rfl, by simp, by rw [List.nil_append]; exact HT0, by rw [List.append_nil]; exact HH, Still.refl _ _ _⟩
  case round =>
    clear HT0 HH
    obtain ⟨k, D, hk, rfl, hD, HD, HS, HW⟩ := hrel
    have IX : Hid (∀ k, Calls Try.prog 37 #[.string (lo.extract k lo.size), .string ⟨#[97, 117, 116, 104, 111, 114, 105, 122, 97, 116, 105, 111, 110]⟩] wr fun e w' => e = .returned (.int .i64 (Lib.index (lo.data.toList.drop k) nameL)) ∧ w' = wr) :=
      fun k => index_any lo k m wr (by omega) (HW.out.cell0 (by omega) (by omega) HM.out)
    by_cases hlt : k < lo.size
    · by_cases hx : Lib.index (lo.data.toList.drop k) nameL < 0
      · go_wp2_with (go_at_call 37; refine (IX.out _).mono ?_; rintro e w' ⟨rfl, rfl⟩)
        refine bodyPost_ret (results_none rfl _ _ _) rfl ?_
        refine ⟨rfl, ?_, HW.out⟩
        rw [HD.out, scan_none hx, List.append_nil]
        exact HS.out
      · obtain ⟨i, hi⟩ : ∃ i : Nat, Lib.index (lo.data.toList.drop k) nameL = (i : Nat) := ⟨_, (Int.toNat_of_nonneg (by omega)).symm⟩
        have hroom : k + i + 13 ≤ lo.size := by
          have := index_place hx
          rw [hi, List.length_drop, len_eq] at this
          omega
        rw [hi] at hx
        have IXk : Hid (Calls Try.prog 37 #[.string (lo.extract k lo.size), .string ⟨#[97, 117, 116, 104, 111, 114, 105, 122, 97, 116, 105, 111, 110]⟩] wr fun e w' => e = .returned (.int .i64 (i : Nat)) ∧ w' = wr) := by
          have := IX.out k; rw [hi] at this; exact this
        have ST := hide (scan_step (t := t.data.toList) (lo := lo.data.toList) (k := k) (i := i) (by rw [len_eq, len_eq]; exact HLO.out) hi (by rw [len_eq]; exact hlt))
        have nb := next_bounds (t := t.data.toList) (i := k + i) (by rw [len_eq, ← HLO.out]; omega)
        rw [len_eq, ← HLO.out] at nb
        have MA := hide (match_any base B Bt Bs t lo (sp ++ D) (k + i) wr (by omega) (by rw [← HLO.out]; omega)
          (HW.out.cell HT.out hBt (by decide) (cell_of_one HT.out)) (HW.out.cell HSC.out hBs (by decide) (cell_of_one HSC.out)) HS.out (by rw [List.length_append]; omega) (Nat.le_trans hb HW.out.size))
        have hfl := found_length (matchAt t.data.toList (k + i))
        have ei : ((k + i : Nat) : Int) = (i : Int) + (k : Int) := by omega
        rw [ei] at MA
        clear IX hi ei
        generalize nextOf (k + i) (matchAt t.data.toList (k + i)) = N at MA ST nb
        generalize found (matchAt t.data.toList (k + i)) = F at MA ST hfl
        obtain ⟨nb1, nb2⟩ := nb
        go_wp2_with (first | (go_at_call 37; refine IXk.out.mono ?_; rintro e w' ⟨rfl, rfl⟩) | (go_at_call 28; refine MA.out.mono ?_; rintro e w1 ⟨rfl, hA, hS⟩))
        have hmax : max (N : Int) ((i : Int) + (k : Int) + 1) = (N : Int) := by omega
        go_roundw
        case rel => exact ⟨N, D ++ F, nb2, by rw [hmax], by rw [List.length_append]; omega, by rw [HD.out, ST.out, List.append_assoc]; exact rfl, by rw [← List.append_assoc]; exact hA, HW.out.trans hS⟩
        case measure => rw [hmax]; simp [intOf]; omega
    · go_wp2
      go_end0
      refine ⟨rfl, ?_, HW.out⟩
      rw [HD.out, scan_end (by rw [len_eq]; omega), List.append_nil]
      exact HS.out
end Go.Proofs.Qxb6616246a
