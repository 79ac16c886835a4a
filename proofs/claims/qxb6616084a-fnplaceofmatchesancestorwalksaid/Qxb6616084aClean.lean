/-
  'zzCleanPath', 'zzAllClean': a clean path does not begin "./".
-/
import Derived.Test.Qxb6616084aGuards
namespace Go.Proofs.Qxb6616084a
set_option linter.unusedVariables false
open Go.RowKit
/-- d does not begin "./". -/
def NoDS (d : List UInt8) : Prop := ¬ (d[0]? = some 46 ∧ d[1]? = some 47)
def CleanPost (d : List UInt8) (w : World) (e : Ending) (w' : World) : Prop := ∃ r : Bool, e = .returned (.bool r) ∧ (r = true → NoDS d) ∧ w = w'
theorem ext_nil (d : ByteArray) (a b : Nat) : (d.extract a b).toList = ((d.data.toList.drop a).take (b - a)) := by
  rw [ByteArray.toList_eq, extract_str]
set_option maxHeartbeats 4000000 in
set_option maxRecDepth 100000 in
theorem clean_any (d : ByteArray) (w : World) (hd : d.size ≤ 1048576) :
    Calls Try.prog 7 #[.string d] w fun e w' => CleanPost d.data.toList w e w' := by
  have e2 := beq_lit d [46]
  by_cases h1 : d.data.toList = dot
  · have HD : Hid (NoDS d.data.toList) := by rw [h1]; exact hide (by intro h; simp [dot] at h)
    rw [decide_eq_true (show d.data.toList = [46] from h1)] at e2
    clear h1
    go_enter Try.func7, Try.ntmps7
    go_wp2
    go_ret
    exact ⟨true, rfl, fun _ => HD.out, rfl⟩
  · rw [decide_eq_false (show ¬ d.data.toList = [46] from h1)] at e2
    clear h1
    by_cases h0 : d.size = 0
    · have h0' : (d.size : Int) = 0 := by omega
      go_enter Try.func7, Try.ntmps7
      go_wp2
      go_ret
      exact ⟨false, rfl, fun h => by simp at h, rfl⟩
    · have h0' : ¬ (d.size : Int) = 0 := by omega
      have h0'' : ((d.size : Int) == 0) = false := beq_eq_false_iff_ne.2 h0'
      go_enter Try.func7, Try.ntmps7
      go_wp2_with fail
      go_loop [3, 4] (fun s i => ∃ (k st : Nat), k ≤ d.size + 1 ∧ st ≤ k ∧ s = .int .i64 st ∧ i = .int .i64 k ∧ Hid (k ≤ 1 → d.data.toList[0]? = some 46 → st = 0) ∧ Hid (2 ≤ k → NoDS d.data.toList)) (fun _ i => d.size + 1 - (intOf i).toNat)
      case atStart => exact ⟨0, 0, by omega, by omega, rfl, rfl, fun _ _ => rfl, fun h => by omega⟩
      case round =>
        obtain ⟨k, st, hk, hst, rfl, rfl, H1, H2⟩ := hrel
        by_cases hlt : k ≤ d.size
        · have hlt' : (k : Int) ≤ (d.size : Int) := by omega
          have hst' : (st : Int) ≤ (k : Int) := by omega
          by_cases hd1 : k = d.size
          · have hd1' : (k : Int) = (d.size : Int) := by omega
            have HN : Hid (2 ≤ k + 1 → NoDS d.data.toList) := fun h => by
              by_cases e : 2 ≤ k
              · exact H2.out e
              · have : d.size = 1 := by omega
                intro hh
                have := (List.getElem?_eq_some_iff.1 hh.2).1
                rw [size_str] at this
                omega
            subst hd1
            go_wp2
            all_goals first
              | (go_ret; exact ⟨false, rfl, fun h => by simp at h, rfl⟩)
              | (go_round
                 case rel => exact ⟨d.size + 1, d.size + 1, by omega, by omega, by go_num, by go_num, fun h => by omega, HN⟩
                 case measure => simp [intOf])
          · have hkd : k < d.size := by omega
            have hkd' : (k : Int) < (d.size : Int) := by omega
            have hne : ((k : Int) == (d.size : Int)) = false := beq_eq_false_iff_ne.2 (by omega)
            have hg := get_str d k hkd
            have e4 := byte47 (d[k]'hkd)
            by_cases h4 : (d[k]'hkd) = 47
            · rw [decide_eq_true h4] at e4
              by_cases h5 : k = 1 ∧ d.data.toList[0]? = some 46
              · obtain ⟨rfl, h6⟩ := h5
                obtain rfl := H1.out (by omega) h6
                have e5 : ((d.extract 0 1).toList == []) = false := by
                  rw [ext_nil]
                  cases hq : d.data.toList with
                  | nil => rw [hq] at h6; simp at h6
                  | cons x xs => simp
                have e6 : ((d.extract 0 1).toList == [46]) = true := by
                  rw [ext_nil]
                  cases hq : d.data.toList with
                  | nil => rw [hq] at h6; simp at h6
                  | cons x xs => rw [hq] at h6; simp at h6; simp [h6]
                clear hg h6
                go_wp2
                go_ret
                exact ⟨false, rfl, fun h => by simp at h, rfl⟩
              · have HN : Hid (2 ≤ k + 1 → NoDS d.data.toList) := fun h => by
                  by_cases e : 2 ≤ k
                  · exact H2.out e
                  · obtain rfl : k = 1 := by omega
                    exact fun hh => h5 ⟨rfl, hh.1⟩
                have HM : Hid (k + 1 ≤ 1 → d.data.toList[0]? = some 46 → k + 1 = 0) := fun h hh => by
                  obtain rfl : k = 0 := by omega
                  rw [hg, h4] at hh
                  simp at hh
                clear hg h5
                go_wp2
                all_goals first
                  | (go_ret; exact ⟨false, rfl, fun h => by simp at h, rfl⟩)
                  | (go_round
                     case rel => exact ⟨k + 1, k + 1, by omega, by omega, by go_num, by go_num, HM, HN⟩
                     case measure => simp [intOf]; omega)
            · rw [decide_eq_false h4] at e4
              have HN : Hid (2 ≤ k + 1 → NoDS d.data.toList) := fun h => by
                by_cases e : 2 ≤ k
                · exact H2.out e
                · obtain rfl : k = 1 := by omega
                  intro hh
                  rw [hg] at hh
                  exact h4 (by simpa using hh.2)
              have HM : Hid (k + 1 ≤ 1 → d.data.toList[0]? = some 46 → st = 0) := fun h hh => H1.out (by omega) hh
              clear hg
              go_wp2
              go_round
              case rel => exact ⟨k + 1, st, by omega, by omega, rfl, by go_num, HM, HN⟩
              case measure => simp [intOf]; omega
        · obtain rfl : k = d.size + 1 := by omega
          have HN : Hid (NoDS d.data.toList) := fun hh => H2.out (by omega) hh
          go_wp2
          go_ret
          exact ⟨true, rfl, fun _ => HN.out, rfl⟩
set_option maxHeartbeats 4000000 in
set_option maxRecDepth 100000 in
theorem allClean_any (v : Value) (ls : List Layer) (w : World) (hv : ReadsL w.heap.size v ls w) (hs : ∀ l ∈ ls, OkLayer l) :
    Calls Try.prog 8 #[v] w fun e w' => SomeBool w e w' := by
  obtain ⟨a, n, cap, rfl, hn, hl⟩ := hv.at'
  have HL := hide hl
  have HS := hide hs
  clear hl hv hs
  go_enter Try.func8, Try.ntmps8
  go_wp2_with fail
  go_loop [3] (fun i => ∃ (k : Nat), k ≤ n ∧ i = .int .i64 k) (fun i => n - (intOf i).toNat)
  case atStart => exact ⟨0, by omega, rfl⟩
  case round =>
    obtain ⟨k, hk, rfl⟩ := hrel
    by_cases hlt : k < n
    · obtain ⟨g, o, a', n', cap', nm, ps, iso, rfl, hg, he, c1, c2, c3, hn', hp, hr⟩ := HL.out.cell k hlt
      have HP := hide hp
      have HO := hide (HS.out _ (List.mem_of_getElem? he))
      clear hp c3 c1 hr he
      have hlt' : (k : Int) < (n : Int) := by omega
      go_wp2_with fail
      go_loop [5] (fun i => ∃ (k2 : Nat), k2 ≤ n' ∧ i = .int .i64 k2) (fun i => n' - (intOf i).toNat)
      case atStart => exact ⟨0, by omega, rfl⟩
      case round =>
        obtain ⟨k2, hk2, rfl⟩ := hrel
        by_cases hlt2 : k2 < n'
        · obtain ⟨g2, o2, s2, t2, rfl, hg2, he2, d1, d2⟩ := HP.out.cell k2 hlt2
          have CL := hide (clean_any s2 w (HO.out.2.2 _ (List.mem_of_getElem? he2)))
          clear d2 he2
          have hlt2' : (k2 : Int) < (n' : Int) := by omega
          go_wp2_with (go_at_call 7; refine CL.out.mono ?_; rintro e w' ⟨r, rfl, hr, rfl⟩; clear hr; cases r)
          all_goals first
            | (go_ret; exact ⟨_, rfl, rfl⟩)
            | (go_round
               case rel => exact ⟨k2 + 1, by omega, by go_num⟩
               case measure => simp [intOf]; omega)
        · obtain rfl : k2 = n' := by omega
          go_wp2
          go_round
          case rel => exact ⟨k + 1, by omega, by go_num⟩
          case measure => simp [intOf]; omega
    · obtain rfl : k = n := by omega
      go_wp2
      go_ret
      exact ⟨_, rfl, rfl⟩
end Go.Proofs.Qxb6616084a
