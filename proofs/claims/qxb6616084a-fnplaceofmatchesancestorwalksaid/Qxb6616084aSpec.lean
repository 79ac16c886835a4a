/-
  How specific a pattern is; the unit; a leading part.
-/
import Derived.Test.Qxb6616084aStrs
import Derived.Test.Qxb6616084aShelf
import Derived.Lib.IndexLaws
namespace Go.Proofs.Qxb6616084a
set_option linter.unusedVariables false
open Go.RowKit
/-- The rank of the pattern (b, t). -/
def Sp (b : List UInt8) (t : Bool) : Int := if t = false then 9223372036854775807 else if b = dot then 0 else (Lib.countByte b 47 : Int) + 1
set_option maxHeartbeats 4000000 in
theorem spec_any (b : ByteArray) (t : Bool) (w : World) (hb : b.size ≤ 1048576) :
    Calls Try.prog 20 #[.agg #[.string b, .bool t]] w fun e w' => e = .returned (.int .i64 (Sp b.data.toList t)) ∧ Below w.heap.size w w' := by
  have e2 := beq_lit b [46]
  have hbl : ∀ o, Below w.heap.size w (w.alloc o) := fun o => (Below.refl _ w).alloc (Nat.le_refl _) o
  have SC := fun W => Try.strings_Count_one b 47 W
  have hcb : Lib.countByte b.data.toList 47 ≤ 1048576 := by
    unfold Lib.countByte
    have := List.count_le_length (a := (47 : UInt8)) (l := b.data.toList)
    rw [size_str] at this
    omega
  obtain ⟨r, HR⟩ : ∃ r, Hid (Sp b.data.toList t = r) := ⟨_, rfl⟩
  rw [HR.out]
  cases t with
  | false =>
    have hr : Hid (r = 9223372036854775807) := by rw [← HR.out]; exact hide (by simp [Sp])
    go_enter Try.func20, Try.ntmps20
    go_wp2
    go_ret
    exact ⟨by rw [hr.out]; rfl, hbl _⟩
  | true =>
    by_cases h2 : b.data.toList = dot
    · have hr : Hid (r = 0) := by rw [← HR.out]; exact hide (by simp [Sp, h2])
      rw [decide_eq_true (show b.data.toList = [46] from h2)] at e2
      clear h2
      go_enter Try.func20, Try.ntmps20
      go_wp2
      go_ret
      exact ⟨by rw [hr.out]; rfl, hbl _⟩
    · have hr : Hid (r = (Lib.countByte b.data.toList 47 : Int) + 1) := by rw [← HR.out]; exact hide (by simp [Sp, h2])
      rw [decide_eq_false (show ¬ b.data.toList = [46] from h2)] at e2
      clear h2
      generalize Lib.countByte b.data.toList 47 = n at SC hcb hr
      go_enter Try.func20, Try.ntmps20
      go_wp2_with (go_at_call 25; refine (SC _).mono ?_; rintro e w' ⟨rfl, rfl⟩)
      go_ret
      exact ⟨by rw [hr.out]; go_num, hbl _⟩
theorem ext_eq (T : ByteArray) (a b : Nat) : T.extract a b = ⟨((T.data.toList.drop a).take (b - a)).toArray⟩ := by
  have : (T.extract a b).data = ((T.data.toList.drop a).take (b - a)).toArray := by
    apply Array.toList_inj.1
    rw [extract_str]
  cases h : T.extract a b
  rw [h] at this
  simp at this
  rw [this]
/-- The unit of d below the pattern b. -/
def Un (b d : List UInt8) : List UInt8 :=
  if d = b then d else
    let below := if b = dot then 0 else b.length + 1
    if Lib.indexByte (d.drop below) 47 = -1 then d else d.take (below + (Lib.indexByte (d.drop below) 47).toNat)
set_option maxHeartbeats 4000000 in
theorem unit_any (b d : ByteArray) (t : Bool) (w : World) (hb : b.size ≤ 1048576) (hd : d.size ≤ 1048576) (hm : Mt b.data.toList d.data.toList t = true) :
    Calls Try.prog 22 #[.agg #[.string b, .bool t], .string d] w fun e w' => e = .returned (.string ⟨(Un b.data.toList d.data.toList).toArray⟩) ∧ Below w.heap.size w w' := by
  have e1 := beq_str d b
  have e2 := beq_lit b [46]
  have hbl : ∀ o, Below w.heap.size w (w.alloc o) := fun o => (Below.refl _ w).alloc (Nat.le_refl _) o
  have hself : ∀ s : ByteArray, (⟨s.data.toList.toArray⟩ : ByteArray) = s := fun s => by cases s; simp
  obtain ⟨r, HR⟩ : ∃ r : ByteArray, Hid ((⟨(Un b.data.toList d.data.toList).toArray⟩ : ByteArray) = r) := ⟨_, rfl⟩
  rw [HR.out]
  by_cases h1 : d.data.toList = b.data.toList
  · have hr : Hid (r = d) := by
      rw [← HR.out]
      refine hide ?_
      unfold Un
      rw [if_pos h1, hself]
    rw [decide_eq_true h1] at e1
    clear h1
    go_enter Try.func22, Try.ntmps22
    go_wp2
    go_ret
    exact ⟨by rw [hr.out]; rfl, hbl _⟩
  · rw [decide_eq_false h1] at e1
    obtain ⟨k, hk, hkd⟩ : ∃ k : Nat, (if b.data.toList = dot then 0 else b.data.toList.length + 1) = k ∧ k ≤ d.size := by
      refine ⟨_, rfl, ?_⟩
      split
      · omega
      · rename_i h2
        cases t with
        | false => simp [Mt, h1] at hm
        | true =>
          rw [Mt_deep h1 h2] at hm
          simp only [Bool.and_eq_true, decide_eq_true_eq] at hm
          rw [size_str, size_str] at hm
          rw [size_str]
          have := hm.1.1
          omega
    have SI := fun W => Try.strings_IndexByte (d.extract k d.size) 47 W
    rw [extract_str, List.take_of_length_le (by rw [List.length_drop, size_str]; omega)] at SI
    have hUn : Un b.data.toList d.data.toList = if Lib.indexByte (d.data.toList.drop k) 47 = -1 then d.data.toList else d.data.toList.take (k + (Lib.indexByte (d.data.toList.drop k) 47).toNat) := by
      unfold Un
      rw [if_neg h1, hk]
    have hge := Lib.indexByte_ge (d.data.toList.drop k) 47
    have hlt : Lib.indexByte (d.data.toList.drop k) 47 = -1 ∨ ∃ i : Nat, Lib.indexByte (d.data.toList.drop k) 47 = i ∧ k + i < d.size := by
      by_cases h : Lib.indexByte (d.data.toList.drop k) 47 = -1
      · exact .inl h
      · refine .inr ⟨(Lib.indexByte (d.data.toList.drop k) 47).toNat, by omega, ?_⟩
        have h2 := (Lib.indexByte_some (l := d.data.toList.drop k) (c := 47) (o := (Lib.indexByte (d.data.toList.drop k) 47).toNat) (by omega)).1
        have := (List.getElem?_eq_some_iff.1 h2).1
        rw [List.length_drop, size_str] at this
        omega
    have hex0 : d.extract 0 d.size = d := by
      have h : (d.extract 0 d.size).data.toList = d.data.toList := by rw [extract_str, List.drop_zero, Nat.sub_zero, ← size_str, List.take_length]
      have h' : (d.extract 0 d.size).data = d.data := Array.toList_inj.1 h
      cases hq : d.extract 0 d.size
      rw [hq] at h'
      cases d
      simp at h'
      rw [h']
    have SI2 : Hid (∀ W, Calls Try.prog 26 #[.string (d.extract k d.size), .int .u8 47] W fun e w' => e = .returned (.int .i64 (Lib.indexByte (d.data.toList.drop k) 47)) ∧ w' = W) := SI
    clear SI
    generalize Lib.indexByte (d.data.toList.drop k) 47 = ix at *
    have HUN := hide hUn
    clear hUn hm
    have hkd' : (k : Int) ≤ (d.size : Int) := by omega
    by_cases h2 : b.data.toList = dot
    · rw [if_pos h2] at hk
      subst hk
      rw [decide_eq_true (show b.data.toList = [46] from h2)] at e2
      rw [hex0] at SI2
      clear h1 h2 hex0
      rcases hlt with rfl | ⟨i, rfl, hi⟩
      · have hr : Hid (r = d) := by rw [← HR.out, HUN.out, if_pos rfl, hself]; exact hide rfl
        go_enter Try.func22, Try.ntmps22
        go_wp2_with (go_at_call 26; refine (SI2.out _).mono ?_; rintro e w' ⟨rfl, rfl⟩)
        go_ret
        exact ⟨by rw [hr.out]; rfl, hbl _⟩
      · have hr : Hid (r = d.extract 0 i) := by
          rw [← HR.out, HUN.out, if_neg (by omega)]
          refine hide ?_
          rw [ext_eq d 0 i, Int.toNat_natCast]
          simp
        have hi' : decide ((0 : Int) ≤ (i : Int)) = true := decide_eq_true (by omega)
        have hi2 : (i : Int) ≤ (d.size : Int) := by omega
        go_enter Try.func22, Try.ntmps22
        go_wp2_with (go_at_call 26; refine (SI2.out _).mono ?_; rintro e w' ⟨rfl, rfl⟩)
        go_ret
        exact ⟨by rw [hr.out]; rfl, hbl _⟩
    · rw [if_neg h2, size_str] at hk
      subst hk
      rw [decide_eq_false (show ¬ b.data.toList = [46] from h2)] at e2
      clear h1 h2 hex0
      rcases hlt with rfl | ⟨i, rfl, hi⟩
      · have hr : Hid (r = d) := by rw [← HR.out, HUN.out, if_pos rfl, hself]; exact hide rfl
        have hkd2 : (b.size : Int) + 1 ≤ (d.size : Int) := by omega
        go_enter Try.func22, Try.ntmps22
        go_wp2_with (go_at_call 26; refine (SI2.out _).mono ?_; rintro e w' ⟨rfl, rfl⟩)
        go_ret
        exact ⟨by rw [hr.out]; rfl, hbl _⟩
      · have hr : Hid (r = d.extract 0 (b.size + 1 + i)) := by
          rw [← HR.out, HUN.out, if_neg (by omega)]
          refine hide ?_
          rw [ext_eq d 0 (b.size + 1 + i), Int.toNat_natCast]
          simp
        have hi' : decide ((0 : Int) ≤ (i : Int)) = true := decide_eq_true (by omega)
        have hkd2 : (b.size : Int) + 1 ≤ (d.size : Int) := by omega
        have hi2 : (b.size : Int) + 1 + (i : Int) ≤ (d.size : Int) := by omega
        go_enter Try.func22, Try.ntmps22
        go_wp2_with (go_at_call 26; refine (SI2.out _).mono ?_; rintro e w' ⟨rfl, rfl⟩)
        go_ret
        exact ⟨by rw [hr.out]; rfl, hbl _⟩
end Go.Proofs.Qxb6616084a
