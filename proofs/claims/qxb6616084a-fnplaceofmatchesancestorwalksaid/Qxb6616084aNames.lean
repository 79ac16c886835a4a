/-
  'zzLeadingPart', 'zzLayerNames'; slices of patterns and of layers as they are read.
-/
import Derived.Test.Qxb6616084aSpec
namespace Go.Proofs.Qxb6616084a
set_option linter.unusedVariables false
open Go.RowKit
/-- u is d, or d cut just before one of its slashes. -/
def LeadP (u d : List UInt8) : Prop := u = d ∨ ∃ i, i < d.length ∧ d[i]? = some 47 ∧ d.take i = u
set_option maxHeartbeats 4000000 in
theorem lead_any (u d : ByteArray) (w : World) (hd : d.size ≤ 1048576) :
    Calls Try.prog 14 #[.string u, .string d] w fun e w' => ∃ r : Bool, e = .returned (.bool r) ∧ (r = true ↔ LeadP u.data.toList d.data.toList) ∧ w = w' := by
  have e1 := beq_str u d
  by_cases h1 : u.data.toList = d.data.toList
  · have HL : Hid (LeadP u.data.toList d.data.toList) := hide (.inl h1)
    rw [decide_eq_true h1] at e1
    clear h1
    go_enter Try.func14, Try.ntmps14
    go_wp2
    go_ret
    exact ⟨true, rfl, ⟨fun _ => HL.out, fun _ => rfl⟩, rfl⟩
  · rw [decide_eq_false h1] at e1
    have H1 := hide h1
    clear h1
    go_enter Try.func14, Try.ntmps14
    go_wp2_with fail
    go_loopw [5] (fun s5 wr => ∃ i : Nat, s5 = .int .i64 i ∧ i ≤ d.size ∧ Hid (∀ j, j < i → ¬ (d.data.toList[j]? = some 47 ∧ d.data.toList.take j = u.data.toList)) ∧ wr = w) (fun s5 _ => d.size - (intOf s5).toNat)
    case atStart => exact ⟨0, rfl, by omega, fun j hj => by omega, rfl⟩
    case round =>
      obtain ⟨i, rfl, hi, HN, rfl⟩ := hrel
      by_cases hlt : i < d.size
      · have hlt' : (i : Int) < (d.size : Int) := by omega
        have hg := get_str d i hlt
        have e4 := byte47 (d[i]'hlt)
        have e5 := beq_str (d.extract 0 i) u
        rw [extract_str, List.drop_zero, Nat.sub_zero] at e5
        have hil : (i : Int) ≤ (d.size : Int) := by omega
        by_cases h4 : (d[i]'hlt) = 47
        · rw [decide_eq_true h4] at e4
          by_cases h5 : d.data.toList.take i = u.data.toList
          · have HL : Hid (LeadP u.data.toList d.data.toList) := hide (.inr ⟨i, by rw [size_str]; exact hlt, by rw [hg, h4], h5⟩)
            rw [decide_eq_true h5] at e5
            clear h5 hg
            go_wp2
            go_ret
            exact ⟨true, rfl, ⟨fun _ => HL.out, fun _ => rfl⟩, by trivial⟩
          · have HN2 : Hid (∀ j, j < i + 1 → ¬ (d.data.toList[j]? = some 47 ∧ d.data.toList.take j = u.data.toList)) := fun j hj => by
              by_cases e : j < i
              · exact HN.out j e
              · obtain rfl : j = i := by omega
                exact fun h => h5 h.2
            rw [decide_eq_false h5] at e5
            clear h5 hg
            go_wp2
            go_roundw
            case rel => exact ⟨i + 1, by go_num, by omega, HN2, by trivial⟩
            case measure => simp [intOf]; omega
        · have HN2 : Hid (∀ j, j < i + 1 → ¬ (d.data.toList[j]? = some 47 ∧ d.data.toList.take j = u.data.toList)) := fun j hj => by
            by_cases e : j < i
            · exact HN.out j e
            · obtain rfl : j = i := by omega
              exact fun h => h4 (by have := h.1; rw [hg] at this; simpa using this)
          rw [decide_eq_false h4] at e4
          clear hg e5
          go_wp2
          go_roundw
          case rel => exact ⟨i + 1, by go_num, by omega, HN2, by trivial⟩
          case measure => simp [intOf]; omega
      · obtain rfl : i = d.size := by omega
        go_wp2
        go_ret
        refine ⟨false, rfl, ⟨fun h => by simp at h, fun h => ?_⟩, by trivial⟩
        rcases h with h | ⟨j, hj, h2, h3⟩
        · exact absurd h H1.out
        · rw [size_str] at hj
          exact absurd ⟨h2, h3⟩ (HN.out j hj)
structure Pat where
  base : ByteArray
  tree : Bool
structure Layer where
  name : ByteArray
  pats : List Pat
  iso : Bool
/-- A slice of patterns below block B. -/
def ReadsP (B : Nat) (v : Value) (ps : List Pat) (w : World) : Prop :=
  ∃ a cap, v = .slice a ps.length cap ∧ ps.length ≤ cap ∧ cap ≤ maxLen ∧ ∀ j (h : j < ps.length), ∃ g o, a = some ⟨g, o, none⟩ ∧ g < B ∧ w.cell? ⟨g, o + j * 2, none⟩ = some (.string ps[j].base) ∧ w.cell? ⟨g, o + j * 2 + 1, none⟩ = some (.bool ps[j].tree)
theorem ReadsP.below {B : Nat} {v : Value} {ps : List Pat} {w w' : World} (h : ReadsP B v ps w) (hb : Below B w w') : ReadsP B v ps w' := by
  obtain ⟨a, cap, h1, h2, h3, h4⟩ := h
  refine ⟨a, cap, h1, h2, h3, fun j hj => ?_⟩
  obtain ⟨g, o, e1, e2, e3, e4⟩ := h4 j hj
  exact ⟨g, o, e1, e2, by rw [hb.cell (p := ⟨g, o + j * 2, none⟩) e2]; exact e3, by rw [hb.cell (p := ⟨g, o + j * 2 + 1, none⟩) e2]; exact e4⟩
theorem ReadsP.up {B B' : Nat} {v : Value} {ps : List Pat} {w : World} (h : ReadsP B v ps w) (hb : B ≤ B') : ReadsP B' v ps w := by
  obtain ⟨a, cap, h1, h2, h3, h4⟩ := h
  refine ⟨a, cap, h1, h2, h3, fun j hj => ?_⟩
  obtain ⟨g, o, e1, e2, e3⟩ := h4 j hj
  exact ⟨g, o, e1, by omega, e3⟩
/-- Some pattern of ps names d. -/
def NamesP (ps : List Pat) (d : List UInt8) : Prop := ∃ j, ∃ h : j < ps.length, Mt ps[j].base.data.toList d ps[j].tree = true
theorem mt_names (b d : List UInt8) (t : Bool) : Mt b d t = true ↔ (b = d ∨ (t = true ∧ (b = dot ∨ LeadP b d))) := by
  constructor
  · intro h
    by_cases h1 : d = b
    · exact .inl h1.symm
    · right
      cases t with
      | false => simp [Mt, h1] at h
      | true =>
        refine ⟨rfl, ?_⟩
        by_cases h2 : b = dot
        · exact .inl h2
        · right
          rw [Mt_deep h1 h2] at h
          simp only [Bool.and_eq_true, decide_eq_true_eq] at h
          exact .inr ⟨b.length, h.1.1, h.1.2, h.2⟩
  · rintro (h | ⟨rfl, h | h | ⟨i, h1, h2, h3⟩⟩)
    · simp [Mt, h]
    · simp [Mt, h]
    · simp [Mt, h]
    · by_cases e1 : d = b
      · simp [Mt, e1]
      · by_cases e2 : b = dot
        · simp [Mt, e2]
        · rw [Mt_deep e1 e2]
          have hl : b.length = i := by rw [← h3, List.length_take]; omega
          rw [hl, decide_eq_true h1, decide_eq_true h2, decide_eq_true h3]
          rfl
def NamesPost (ps : List Pat) (d : List UInt8) (w : World) (e : Ending) (w' : World) : Prop := ∃ r : Bool, e = .returned (.bool r) ∧ (r = true ↔ NamesP ps d) ∧ Below w.heap.size w w'
set_option maxHeartbeats 4000000 in
set_option maxRecDepth 100000 in
theorem names_any (nm d : ByteArray) (iso : Bool) (pv : Value) (ps : List Pat) (w : World) (hp : ReadsP w.heap.size pv ps w) (hd : d.size ≤ 1048576) :
    Calls Try.prog 13 #[.agg #[.string nm, pv, .bool iso], .string d] w fun e w' => NamesPost ps d.data.toList w e w' := by
  obtain ⟨a, cap, rfl, hlc, hcm, hcells⟩ := id hp
  obtain ⟨n, hn⟩ : ∃ n, ps.length = n := ⟨_, rfl⟩
  have HN := hide hn
  rw [hn] at hlc ⊢
  have HC := hide hcells
  have hnm : n ≤ 9223372036854775807 := by unfold maxLen at hcm; omega
  clear hcells hn hp hcm
  obtain ⟨w1, HW1⟩ : ∃ w1, Hid (w.alloc (.cells #[.string nm, .slice a n cap, .bool iso] 40) = w1) := ⟨_, rfl⟩
  have HB : Hid (Below w.heap.size w w1) := by rw [← HW1.out]; exact (Below.refl _ w).alloc (Nat.le_refl _) _
  have LA := hide (fun u => lead_any u d w1 hd)
  go_enter Try.func13, Try.ntmps13
  go_wp2_with fail
  rw [HW1.out]
  go_loopw [6] (fun s6 wr => ∃ i : Nat, s6 = .int .i64 i ∧ i ≤ n ∧ Hid (∀ j (h : j < ps.length), j < i → ¬ Mt ps[j].base.data.toList d.data.toList ps[j].tree = true) ∧ wr = w1) (fun s6 _ => n - (intOf s6).toNat)
  case atStart => exact ⟨0, rfl, by omega, fun j _ hj => by omega, rfl⟩
  case round =>
    obtain ⟨i, rfl, hi, HM, rfl⟩ := hrel
    by_cases hlt : i < n
    · have hil : i < ps.length := by rw [HN.out]; exact hlt
      obtain ⟨g, o, rfl, hg, hc1, hc2⟩ := HC.out i hil
      obtain ⟨⟨b, t⟩, hq⟩ : ∃ q : Pat, ps[i] = q := ⟨_, rfl⟩
      rw [hq] at hc1 hc2
      have d1 : wr.cell? ⟨g, o + i * 2, none⟩ = some (.string b) := by rw [HB.out.cell (p := ⟨g, o + i * 2, none⟩) hg]; exact hc1
      have d2 : wr.cell? ⟨g, o + i * 2 + 1, none⟩ = some (.bool t) := by rw [HB.out.cell (p := ⟨g, o + i * 2 + 1, none⟩) hg]; exact hc2
      have HMN := hide (mt_names b.data.toList d.data.toList t)
      have HQ := hide hq
      have hlt' : (i : Int) < (n : Int) := by omega
      have e1 := beq_str b d
      have e2 := beq_lit b [46]
      have HM2 : Hid (¬ Mt b.data.toList d.data.toList t = true → ∀ j (h : j < ps.length), j < i + 1 → ¬ Mt ps[j].base.data.toList d.data.toList ps[j].tree = true) := fun hh j h hj => by
        by_cases e : j < i
        · exact HM.out j h e
        · obtain rfl : j = i := by omega
          rw [HQ.out]; exact hh
      have HY : Hid (Mt b.data.toList d.data.toList t = true → NamesP ps d.data.toList) := fun hh => ⟨i, hil, by rw [HQ.out]; exact hh⟩
      clear hc1 hc2 hq
      by_cases h1 : b.data.toList = d.data.toList
      · have HL := hide (HY.out (HMN.out.2 (.inl h1)))
        rw [decide_eq_true h1] at e1
        clear h1
        go_wp2
        go_ret
        exact ⟨true, rfl, ⟨fun _ => HL.out, fun _ => rfl⟩, HB.out⟩
      · rw [decide_eq_false h1] at e1
        have H1 := hide h1
        clear h1
        cases t with
        | false =>
          have HM3 := hide (HM2.out (fun h => by rcases HMN.out.1 h with h | h; exact H1.out h; simp at h))
          go_wp2
          go_roundw
          case rel => exact ⟨i + 1, by go_num, by omega, HM3, by trivial⟩
          case measure => simp [intOf]; omega
        | true =>
          by_cases h2 : b.data.toList = dot
          · have HL := hide (HY.out (HMN.out.2 (.inr ⟨rfl, .inl h2⟩)))
            rw [decide_eq_true (show b.data.toList = [46] from h2)] at e2
            clear h2
            go_wp2
            go_ret
            exact ⟨true, rfl, ⟨fun _ => HL.out, fun _ => rfl⟩, HB.out⟩
          · rw [decide_eq_false (show ¬ b.data.toList = [46] from h2)] at e2
            have H2 := hide h2
            clear h2
            have LB := hide (show Calls Try.prog 14 #[.string b, .string d] wr fun e w' => ∃ r : Bool, e = .returned (.bool r) ∧ Hid (r = true ↔ LeadP b.data.toList d.data.toList) ∧ wr = w' from LA.out b)
            go_wp2_with (go_at_call 14; refine LB.out.mono ?_; rintro e w' ⟨r, rfl, hr, rfl⟩; cases r)
            · go_roundw
              case rel => exact ⟨i + 1, by go_num, by omega, hide (HM2.out (fun h => by
                rcases HMN.out.1 h with h | ⟨_, h | h⟩
                · exact H1.out h
                · exact H2.out h
                · exact absurd (hr.out.2 h) (by decide))), by trivial⟩
              case measure => simp [intOf]; omega
            · go_ret
              exact ⟨true, rfl, ⟨fun _ => HY.out (HMN.out.2 (.inr ⟨by trivial, .inr (hr.out.1 (by trivial))⟩)), fun _ => rfl⟩, HB.out⟩
    · obtain rfl : i = n := by omega
      go_wp2
      go_ret
      refine ⟨false, rfl, ⟨fun h => by simp at h, fun h => ?_⟩, HB.out⟩
      obtain ⟨j, hj, h2⟩ := h
      exact absurd h2 (HM.out j hj (by rw [← HN.out]; exact hj))
end Go.Proofs.Qxb6616084a
