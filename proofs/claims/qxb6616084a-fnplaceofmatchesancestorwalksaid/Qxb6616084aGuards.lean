/-
  The tests at the heads of the laws.
-/
import Derived.Test.Qxb6616084aNames
namespace Go.Proofs.Qxb6616084a
set_option linter.unusedVariables false
open Go.RowKit
/-- A slice of the law's layers, all below block B. -/
def ReadsL (B : Nat) (v : Value) (ls : List Layer) (w : World) : Prop :=
  ∃ a cap, v = .slice a ls.length cap ∧ ls.length ≤ cap ∧ cap ≤ maxLen ∧ ∀ i (h : i < ls.length), ∃ g o pv, a = some ⟨g, o, none⟩ ∧ g < B ∧ w.cell? ⟨g, o + i * 3, none⟩ = some (.string ls[i].name) ∧ w.cell? ⟨g, o + i * 3 + 1, none⟩ = some pv ∧ w.cell? ⟨g, o + i * 3 + 2, none⟩ = some (.bool ls[i].iso) ∧ ReadsP B pv ls[i].pats w
theorem ReadsL.below {B : Nat} {v : Value} {ls : List Layer} {w w' : World} (h : ReadsL B v ls w) (hb : Below B w w') : ReadsL B v ls w' := by
  obtain ⟨a, cap, h1, h2, h3, h4⟩ := h
  refine ⟨a, cap, h1, h2, h3, fun j hj => ?_⟩
  obtain ⟨g, o, pv, e1, e2, e3, e4, e5, e6⟩ := h4 j hj
  exact ⟨g, o, pv, e1, e2, by rw [hb.cell (p := ⟨g, o + j * 3, none⟩) e2]; exact e3, by rw [hb.cell (p := ⟨g, o + j * 3 + 1, none⟩) e2]; exact e4, by rw [hb.cell (p := ⟨g, o + j * 3 + 2, none⟩) e2]; exact e5, e6.below hb⟩
theorem ReadsL.up {B B' : Nat} {v : Value} {ls : List Layer} {w : World} (h : ReadsL B v ls w) (hb : B ≤ B') : ReadsL B' v ls w := by
  obtain ⟨a, cap, h1, h2, h3, h4⟩ := h
  refine ⟨a, cap, h1, h2, h3, fun j hj => ?_⟩
  obtain ⟨g, o, pv, e1, e2, e3, e4, e5, e6⟩ := h4 j hj
  exact ⟨g, o, pv, e1, by omega, e3, e4, e5, e6.up hb⟩
def SomeBool (w : World) (e : Ending) (w' : World) : Prop := ∃ b, e = .returned (.bool b) ∧ w = w'
/-- What a row of patterns shows to a walk: its length and the bases. -/
structure PatsAt (B : Nat) (w : World) (a : Option Addr) (n : Nat) (ps : List Pat) : Prop where
  len : ps.length = n
  cell : ∀ j, j < n → ∃ g o b t, a = some ⟨g, o, none⟩ ∧ g < B ∧ ps[j]? = some ⟨b, t⟩ ∧ w.cell? ⟨g, o + j * 2, none⟩ = some (.string b) ∧ w.cell? ⟨g, o + j * 2 + 1, none⟩ = some (.bool t)
structure LayersAt (B : Nat) (w : World) (a : Option Addr) (n : Nat) (ls : List Layer) : Prop where
  len : ls.length = n
  cell : ∀ i, i < n → ∃ g o a' n' cap' nm ps iso, a = some ⟨g, o, none⟩ ∧ g < B ∧ ls[i]? = some ⟨nm, ps, iso⟩ ∧ w.cell? ⟨g, o + i * 3, none⟩ = some (.string nm) ∧ w.cell? ⟨g, o + i * 3 + 1, none⟩ = some (.slice a' n' cap') ∧ w.cell? ⟨g, o + i * 3 + 2, none⟩ = some (.bool iso) ∧ n' ≤ 9223372036854775807 ∧ PatsAt B w a' n' ps ∧ ReadsP B (.slice a' n' cap') ps w
theorem ReadsP.at' {B : Nat} {v : Value} {ps : List Pat} {w : World} (h : ReadsP B v ps w) : ∃ a n cap, v = .slice a n cap ∧ n ≤ 9223372036854775807 ∧ PatsAt B w a n ps := by
  obtain ⟨a, cap, h1, h2, h3, h4⟩ := h
  refine ⟨a, ps.length, cap, h1, by unfold maxLen at h3; omega, rfl, fun i hi => ?_⟩
  obtain ⟨g, o, q1, q2, q3, q4⟩ := h4 i hi
  exact ⟨g, o, _, _, q1, q2, List.getElem?_eq_getElem hi, q3, q4⟩
theorem ReadsL.at' {B : Nat} {v : Value} {ls : List Layer} {w : World} (h : ReadsL B v ls w) : ∃ a n cap, v = .slice a n cap ∧ n ≤ 9223372036854775807 ∧ LayersAt B w a n ls := by
  obtain ⟨a, cap, h1, h2, h3, h4⟩ := h
  refine ⟨a, ls.length, cap, h1, by unfold maxLen at h3; omega, rfl, fun i hi => ?_⟩
  obtain ⟨g, o, pv, e1, e2, e3, e4, e5, e6⟩ := h4 i hi
  obtain ⟨a', n', cap', rfl, f2, f3⟩ := e6.at'
  exact ⟨g, o, a', n', cap', _, _, _, e1, e2, List.getElem?_eq_getElem hi, e3, e4, e5, f2, f3, e6⟩
set_option maxHeartbeats 4000000 in
set_option maxRecDepth 100000 in
theorem bytes12 (v : Value) (ls : List Layer) (d : ByteArray) (w : World) (hv : ReadsL w.heap.size v ls w) :
    Calls Try.prog 12 #[v, .string d] w fun e w' => SomeBool w e w' := by
  obtain ⟨a, n, cap, rfl, hn, hl⟩ := hv.at'
  have HL := hide hl
  clear hl hv
  go_enter Try.func12, Try.ntmps12
  go_wp2_with fail
  all_goals first
    | (go_ret; exact ⟨_, rfl, rfl⟩)
    | skip
  go_loop [5, 6] (fun z i => ∃ (k : Nat) (z' : Int), k ≤ n ∧ i = .int .i64 k ∧ z = .int .i64 z') (fun _ i => n - (intOf i).toNat)
  case atStart => exact ⟨0, _, by omega, rfl, rfl⟩
  case round =>
    obtain ⟨k, z, hk, rfl, rfl⟩ := hrel
    by_cases hlt : k < n
    · obtain ⟨g, o, a', n', cap', nm, ps, iso, rfl, hg, he, c1, c2, c3, hn', hp, hr⟩ := HL.out.cell k hlt
      have HP := hide hp
      clear hp c3 hr he
      have hlt' : (k : Int) < (n : Int) := by omega
      go_wp2_with fail
      all_goals first
        | (go_ret; exact ⟨_, rfl, rfl⟩)
        | skip
      go_loop [5, 7] (fun z i => ∃ (k : Nat) (z' : Int), k ≤ n' ∧ i = .int .i64 k ∧ z = .int .i64 z') (fun _ i => n' - (intOf i).toNat)
      case atStart => exact ⟨0, _, by omega, rfl, rfl⟩
      case round =>
        obtain ⟨k2, z2, hk2, rfl, rfl⟩ := hrel
        by_cases hlt2 : k2 < n'
        · obtain ⟨g2, o2, s2, t2, rfl, hg2, he2, d1, d2⟩ := HP.out.cell k2 hlt2
          clear d2 he2
          have hlt2' : (k2 : Int) < (n' : Int) := by omega
          go_wp2
          all_goals first
            | (go_ret; exact ⟨_, rfl, rfl⟩)
            | (go_round
               case rel => exact ⟨k2 + 1, _, by omega, by go_num, rfl⟩
               case measure => simp [intOf]; omega)
        · obtain rfl : k2 = n' := by omega
          go_wp2
          go_round
          case rel => exact ⟨k + 1, _, by omega, by go_num, rfl⟩
          case measure => simp [intOf]; omega
    · go_wp2
      all_goals (go_ret; exact ⟨_, rfl, rfl⟩)
set_option maxHeartbeats 4000000 in
set_option maxRecDepth 100000 in
theorem bytes5 (v : Value) (ls : List Layer) (d : ByteArray) (w : World) (hv : ReadsL w.heap.size v ls w) :
    Calls Try.prog 5 #[v, .string d] w fun e w' => SomeBool w e w' := by
  obtain ⟨a, n, cap, rfl, hn, hl⟩ := hv.at'
  have HL := hide hl
  clear hl hv
  go_enter Try.func5, Try.ntmps5
  go_wp2_with fail
  all_goals first
    | (go_ret; exact ⟨_, rfl, rfl⟩)
    | skip
  go_loop [5, 6] (fun z i => ∃ (k : Nat) (z' : Int), k ≤ n ∧ i = .int .i64 k ∧ z = .int .i64 z') (fun _ i => n - (intOf i).toNat)
  case atStart => exact ⟨0, _, by omega, rfl, rfl⟩
  case round =>
    obtain ⟨k, z, hk, rfl, rfl⟩ := hrel
    by_cases hlt : k < n
    · obtain ⟨g, o, a', n', cap', nm, ps, iso, rfl, hg, he, c1, c2, c3, hn', hp, hr⟩ := HL.out.cell k hlt
      have HP := hide hp
      clear hp c3 hr he
      have hlt' : (k : Int) < (n : Int) := by omega
      go_wp2_with fail
      all_goals first
        | (go_ret; exact ⟨_, rfl, rfl⟩)
        | skip
      go_loop [5, 7] (fun z i => ∃ (k : Nat) (z' : Int), k ≤ n' ∧ i = .int .i64 k ∧ z = .int .i64 z') (fun _ i => n' - (intOf i).toNat)
      case atStart => exact ⟨0, _, by omega, rfl, rfl⟩
      case round =>
        obtain ⟨k2, z2, hk2, rfl, rfl⟩ := hrel
        by_cases hlt2 : k2 < n'
        · obtain ⟨g2, o2, s2, t2, rfl, hg2, he2, d1, d2⟩ := HP.out.cell k2 hlt2
          clear d2 he2
          have hlt2' : (k2 : Int) < (n' : Int) := by omega
          go_wp2
          all_goals first
            | (go_ret; exact ⟨_, rfl, rfl⟩)
            | (go_round
               case rel => exact ⟨k2 + 1, _, by omega, by go_num, rfl⟩
               case measure => simp [intOf]; omega)
        · obtain rfl : k2 = n' := by omega
          go_wp2
          go_round
          case rel => exact ⟨k + 1, _, by omega, by go_num, rfl⟩
          case measure => simp [intOf]; omega
    · go_wp2
      all_goals (go_ret; exact ⟨_, rfl, rfl⟩)
def OkPat (q : Pat) : Prop := q.base.size ≤ 1048576
def OkLayer (l : Layer) : Prop := l.name.size ≤ 1048576 ∧ l.pats.length ≤ 1048576 ∧ ∀ q ∈ l.pats, OkPat q
/-- What 'zzSizeOK' says when it says yes. -/
def Sized (ls : List Layer) (d : ByteArray) : Prop := d.size ≤ 1048576 ∧ ls.length ≤ 1048576 ∧ ∀ l ∈ ls, OkLayer l
def SizePost (ls : List Layer) (d : ByteArray) (w : World) (e : Ending) (w' : World) : Prop := w = w' ∧ (e = .returned (.bool false) ∨ (e = .returned (.bool true) ∧ Sized ls d))
set_option maxHeartbeats 4000000 in
set_option maxRecDepth 100000 in
theorem size_any (v : Value) (ls : List Layer) (d : ByteArray) (w : World) (hv : ReadsL w.heap.size v ls w) :
    Calls Try.prog 6 #[v, .string d] w fun e w' => SizePost ls d w e w' := by
  obtain ⟨a, n, cap, rfl, hn, hl⟩ := hv.at'
  have HL := hide hl
  clear hl hv
  by_cases hd : d.size ≤ 1048576
  · have hd' : (d.size : Int) ≤ 1048576 := by omega
    go_enter Try.func6, Try.ntmps6
    go_wp2_with fail
    go_loop [5, 6] (fun z i => ∃ (k : Nat) (z' : Int), k ≤ n ∧ 48 * (k : Int) ≤ z' ∧ z' ≤ 1048576 ∧ i = .int .i64 k ∧ z = .int .i64 z' ∧ Hid (∀ i l, i < k → ls[i]? = some l → OkLayer l)) (fun _ i => n - (intOf i).toNat)
    case atStart => exact ⟨0, _, by omega, by omega, hd', rfl, rfl, fun i l h => absurd h (Nat.not_lt_zero _)⟩
    case round =>
      obtain ⟨k, z, hk, hz1, hz2, rfl, rfl, HK⟩ := hrel
      by_cases hlt : k < n
      · obtain ⟨g, o, a', n', cap', nm, ps, iso, rfl, hg, he, c1, c2, c3, hn', hp, hr⟩ := HL.out.cell k hlt
        have HP := hide hp
        have HE := hide he
        clear hp c3 hr he
        have hlt' : (k : Int) < (n : Int) := by omega
        by_cases h1 : nm.size ≤ 1048576
        · have h1' : (nm.size : Int) ≤ 1048576 := by omega
          by_cases h2 : z + (48 + (nm.size : Int)) ≤ 1048576
          · have h2' : ¬ z + (48 + (nm.size : Int)) > 1048576 := by omega
            go_wp2_with fail
            go_loop [5, 8] (fun z i => ∃ (k2 : Nat) (z' : Int), k2 ≤ n' ∧ 48 * (k : Int) + 48 + (k2 : Int) ≤ z' ∧ z' ≤ 1048576 ∧ i = .int .i64 k2 ∧ z = .int .i64 z' ∧ Hid (∀ j q, j < k2 → ps[j]? = some q → OkPat q)) (fun _ i => n' - (intOf i).toNat)
            case atStart => exact ⟨0, z + (48 + (nm.size : Int)), by omega, by omega, h2, rfl, by go_num, fun i l h => absurd h (Nat.not_lt_zero _)⟩
            case round =>
              obtain ⟨k2, z2, hk2, hy1, hy2, rfl, rfl, HJ⟩ := hrel
              by_cases hlt2 : k2 < n'
              · obtain ⟨g2, o2, s2, t2, rfl, hg2, he2, d1, d2⟩ := HP.out.cell k2 hlt2
                have HE2 := hide he2
                clear d2 he2
                have hlt2' : (k2 : Int) < (n' : Int) := by omega
                by_cases h3 : s2.size ≤ 1048576
                · have h3' : (s2.size : Int) ≤ 1048576 := by omega
                  have HJ2 : Hid (∀ j q, j < k2 + 1 → ps[j]? = some q → OkPat q) := fun j q hj hq => by
                    by_cases e : j < k2
                    · exact HJ.out j q e hq
                    · obtain rfl : j = k2 := by omega
                      rw [HE2.out] at hq
                      cases hq
                      exact h3
                  by_cases h4 : z2 + (24 + (s2.size : Int)) ≤ 1048576
                  · have h4' : ¬ z2 + (24 + (s2.size : Int)) > 1048576 := by omega
                    go_wp2
                    go_round
                    case rel => exact ⟨k2 + 1, z2 + (24 + (s2.size : Int)), by omega, by omega, h4, by go_num, by go_num, HJ2⟩
                    case measure => simp [intOf]; omega
                  · have h4' : z2 + (24 + (s2.size : Int)) > 1048576 := by omega
                    go_wp2
                    go_ret
                    exact ⟨rfl, .inl rfl⟩
                · have h3' : (s2.size : Int) > 1048576 := by omega
                  go_wp2
                  go_ret
                  exact ⟨rfl, .inl rfl⟩
              · obtain rfl : k2 = n' := by omega
                have HK2 : Hid (∀ i l, i < k + 1 → ls[i]? = some l → OkLayer l) := fun i l hi hq => by
                  by_cases e : i < k
                  · exact HK.out i l e hq
                  · obtain rfl : i = k := by omega
                    rw [HE.out] at hq
                    cases hq
                    refine ⟨h1, by show ps.length ≤ _; rw [HP.out.len]; omega, fun q hq => ?_⟩
                    obtain ⟨j, hj, rfl⟩ := List.getElem_of_mem hq
                    exact HJ.out j _ (by rw [HP.out.len] at hj; exact hj) (List.getElem?_eq_getElem hj)
                go_wp2
                go_round
                case rel => exact ⟨k + 1, z2, by omega, by omega, hy2, by go_num, rfl, HK2⟩
                case measure => simp [intOf]; omega
          · have h2' : z + (48 + (nm.size : Int)) > 1048576 := by omega
            go_wp2
            go_ret
            exact ⟨rfl, .inl rfl⟩
        · have h1' : (nm.size : Int) > 1048576 := by omega
          go_wp2
          go_ret
          exact ⟨rfl, .inl rfl⟩
      · obtain rfl : k = n := by omega
        go_wp2
        go_ret
        refine ⟨rfl, .inr ⟨rfl, hd, by rw [HL.out.len]; omega, fun l hl => ?_⟩⟩
        obtain ⟨i, hi, rfl⟩ := List.getElem_of_mem hl
        exact HK.out i _ (by rw [HL.out.len] at hi; exact hi) (List.getElem?_eq_getElem hi)
  · have hd' : (d.size : Int) > 1048576 := by omega
    go_enter Try.func6, Try.ntmps6
    go_wp2
    go_ret
    exact ⟨rfl, .inl rfl⟩
end Go.Proofs.Qxb6616084a
