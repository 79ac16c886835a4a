/-
  Patterns: what matches, how specific it is, the unit.
-/
import Derived.Test.Qxb6616084aRows
import Derived.WalkKit
import Derived.Deep.QuietTactic
import Derived.BigQuiet
import Derived.Below
import Derived.Laws.IdiomStrings
import Derived.WalkSpells
namespace Go.Proofs.Qxb6616084a
set_option linter.unusedVariables false
open Go.RowKit
theorem hide {p : Prop} (h : p) : Hid p := h
theorem beq_str (a b : ByteArray) : (a.toList == b.toList) = decide (a.data.toList = b.data.toList) := by
  rw [ByteArray.toList_eq, ByteArray.toList_eq]
  by_cases h : a.data.toList = b.data.toList
  · rw [h]; simp
  · rw [decide_eq_false h]
    exact beq_eq_false_iff_ne.2 h
theorem beq_lit (a : ByteArray) (l : List UInt8) : (a.toList == l) = decide (a.data.toList = l) := by
  rw [ByteArray.toList_eq]
  by_cases h : a.data.toList = l
  · rw [h]; simp
  · simp [h]
theorem size_str (a : ByteArray) : a.data.toList.length = a.size := by rw [Array.length_toList]; rfl
theorem get_str (a : ByteArray) (i : Nat) (h : i < a.size) : a.data.toList[i]? = some (a[i]'h) := by
  rw [Array.getElem?_toList, Array.getElem?_eq_getElem (by exact h)]
  rfl
theorem extract_str (T : ByteArray) (a b : Nat) : (T.extract a b).data.toList = (T.data.toList.drop a).take (b - a) := by
  rw [ByteArray.data_extract, Array.toList_extract, List.extract_eq_take_drop]
theorem byte_eq (x : UInt8) (n : Nat) (hn : n < 256) : ((x.toNat : Int) == (n : Int)) = decide (x = UInt8.ofNat n) := by
  have : (x.toNat = n) ↔ x = UInt8.ofNat n := by
    constructor
    · intro h
      rw [← h, UInt8.ofNat_toNat]
    · intro h
      rw [h, UInt8.toNat_ofNat']
      exact Nat.mod_eq_of_lt hn
  by_cases h : x = UInt8.ofNat n
  · have := this.2 h
    rw [decide_eq_true h, this]
    simp
  · have h' : x.toNat ≠ n := fun e => h (this.1 e)
    simp [h]
    omega
def dot : List UInt8 := [46]
/-- The pattern (b, t) names the path d. -/
def Mt (b d : List UInt8) (t : Bool) : Bool := decide (d = b) || (t && (decide (b = dot) || (decide (b.length < d.length) && decide (d[b.length]? = some 47) && decide (d.take b.length = b))))
theorem byte47 (x : UInt8) : ((x.toNat : Int) == 47) = decide (x = 47) := byte_eq x 47 (by decide)
theorem Mt_deep {b d : List UInt8} (h1 : ¬ d = b) (h2 : ¬ b = dot) : Mt b d true = (decide (b.length < d.length) && decide (d[b.length]? = some 47) && decide (d.take b.length = b)) := by
  unfold Mt
  rw [decide_eq_false h1, decide_eq_false h2]
  rfl
set_option maxHeartbeats 4000000 in
theorem match_any (b d : ByteArray) (t : Bool) (w : World) :
    Calls Try.prog 24 #[.agg #[.string b, .bool t], .string d] w fun e w' => e = .returned (.bool (Mt b.data.toList d.data.toList t)) ∧ Below w.heap.size w w' := by
  have e1 := beq_str d b
  have e2 := beq_lit b [46]
  have hbl : ∀ o, Below w.heap.size w (w.alloc o) := fun o => (Below.refl _ w).alloc (Nat.le_refl _) o
  obtain ⟨r, HR⟩ : ∃ r, Hid (Mt b.data.toList d.data.toList t = r) := ⟨_, rfl⟩
  rw [HR.out]
  by_cases h1 : d.data.toList = b.data.toList
  · have hr : Hid (r = true) := by rw [← HR.out]; simp [Mt, h1, Hid]
    rw [decide_eq_true h1] at e1
    clear h1
    go_enter Try.func24, Try.ntmps24
    go_wp2
    go_ret
    exact ⟨by rw [hr.out]; rfl, hbl _⟩
  · rw [decide_eq_false h1] at e1
    cases t with
    | false =>
      have hr : Hid (r = false) := by rw [← HR.out]; simp [Mt, h1, Hid]
      clear h1
      go_enter Try.func24, Try.ntmps24
      go_wp2
      go_ret
      exact ⟨by rw [hr.out]; rfl, hbl _⟩
    | true =>
      by_cases h2 : b.data.toList = dot
      · have hr : Hid (r = true) := by rw [← HR.out]; simp [Mt, h2, Hid]
        rw [decide_eq_true (show b.data.toList = [46] from h2)] at e2
        clear h1 h2
        go_enter Try.func24, Try.ntmps24
        go_wp2
        go_ret
        exact ⟨by rw [hr.out]; rfl, hbl _⟩
      · rw [decide_eq_false (show ¬ b.data.toList = [46] from h2)] at e2
        by_cases h3 : b.size < d.size
        · have h3' : (b.size : Int) < (d.size : Int) := by omega
          have hg := get_str d b.size h3
          have e4 := byte47 (d[b.size]'h3)
          have e5 := beq_str (d.extract 0 b.size) b
          rw [extract_str, List.drop_zero, Nat.sub_zero] at e5
          by_cases h4 : (d[b.size]'h3) = 47
          · have h4' : d.data.toList[b.data.toList.length]? = some 47 := by rw [size_str, hg, h4]
            rw [decide_eq_true h4] at e4
            have h6 : decide ((b.size : Int) ≤ (d.size : Int)) = true := decide_eq_true (by omega)
            by_cases h5 : d.data.toList.take b.size = b.data.toList
            · have hr : Hid (r = true) := by rw [← HR.out, Mt_deep h1 h2, decide_eq_true h4', size_str, size_str, decide_eq_true h3, decide_eq_true h5]; exact hide rfl
              rw [decide_eq_true h5] at e5
              clear h1 h2 h4' h5 hg
              go_enter Try.func24, Try.ntmps24
              go_wp2
              go_ret
              exact ⟨by rw [hr.out]; simp, hbl _⟩
            · have hr : Hid (r = false) := by rw [← HR.out, Mt_deep h1 h2, size_str, decide_eq_false h5, Bool.and_false]; exact hide rfl
              rw [decide_eq_false h5] at e5
              clear h1 h2 h4' h5 hg
              go_enter Try.func24, Try.ntmps24
              go_wp2
              go_ret
              exact ⟨by rw [hr.out]; simp, hbl _⟩
          · have h4' : d.data.toList[b.data.toList.length]? ≠ some 47 := by rw [size_str, hg]; simpa using h4
            have hr : Hid (r = false) := by rw [← HR.out, Mt_deep h1 h2, decide_eq_false h4', Bool.and_false, Bool.false_and]; exact hide rfl
            rw [decide_eq_false h4] at e4
            clear h1 h2 h4' hg e5
            go_enter Try.func24, Try.ntmps24
            go_wp2
            go_ret
            exact ⟨by rw [hr.out]; rfl, hbl _⟩
        · have h3' : decide ((b.size : Int) < (d.size : Int)) = false := decide_eq_false (by omega)
          have hr : Hid (r = false) := by rw [← HR.out, Mt_deep h1 h2, size_str, size_str, decide_eq_false h3, Bool.false_and, Bool.false_and]; exact hide rfl
          clear h1 h2
          go_enter Try.func24, Try.ntmps24
          go_wp2
          go_ret
          exact ⟨by rw [hr.out]; rfl, hbl _⟩
end Go.Proofs.Qxb6616084a
