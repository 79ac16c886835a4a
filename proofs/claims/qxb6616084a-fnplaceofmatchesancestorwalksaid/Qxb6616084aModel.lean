/-
  'zzLayersWith', 'zzVerdict', 'zzModel'.
-/
import Derived.Test.Qxb6616084aPlainW
namespace Go.Proofs.Qxb6616084a
set_option linter.unusedVariables false
open Go.RowKit
def WithPost (ls : List Layer) (b : List UInt8) (t : Bool) (w : World) (e : Ending) (w' : World) : Prop := ∃ f s : Int, e = .returned (.tuple #[.int .i64 f, .int .i64 s]) ∧ First2 ls b t ls.length f s ∧ w = w'
set_option maxHeartbeats 4000000 in
set_option maxRecDepth 100000 in
theorem with_any (v : Value) (ls : List Layer) (b : ByteArray) (t : Bool) (w : World) (hv : ReadsL w.heap.size v ls w) :
    Calls Try.prog 17 #[v, .string b, .bool t] w fun e w' => WithPost ls b.data.toList t w e w' := by
  obtain ⟨a, n, cap, rfl, hn, hl⟩ := hv.at'
  have HL := hide hl
  clear hl hv
  go_enter Try.func17, Try.ntmps17
  go_wp2_with fail
  go_loop [8, 9, 10] (fun s8 s9 s10 => ∃ (i : Nat) (f s : Int), i ≤ n ∧ s8 = .int .i64 f ∧ s9 = .int .i64 s ∧ s10 = .int .i64 i ∧ Hid (First2 ls b.data.toList t i f s)) (fun _ _ i => n - (intOf i).toNat)
  case atStart => exact ⟨0, _, _, by omega, rfl, rfl, rfl, First2.start _ _ _⟩
  case round =>
    obtain ⟨i, f, s, hi, rfl, rfl, rfl, HF⟩ := hrel
    by_cases hlt : i < n
    · obtain ⟨g, o, a', n', cap', nm, ps, iso, rfl, hg, he, c1, c2, c3, hn', hp, hr⟩ := HL.out.cell i hlt
      have HP := hide hp
      have HE := hide he
      clear hp c3 hr he c1
      have hlt' : (i : Int) < (n : Int) := by omega
      go_wp2_with fail
      go_loop [8, 9, 12] (fun s8 s9 s12 => ∃ j : Nat, j ≤ n' ∧ s8 = .int .i64 f ∧ s9 = .int .i64 s ∧ s12 = .int .i64 j ∧ Hid (∀ k p, k < j → ps[k]? = some p → ¬ (p.base.data.toList = b.data.toList ∧ p.tree = t))) (fun _ _ j => n' - (intOf j).toNat)
      case atStart => exact ⟨0, by omega, rfl, rfl, rfl, fun k p hk => by omega⟩
      case round =>
        obtain ⟨j, hj, rfl, rfl, rfl, HJ⟩ := hrel
        by_cases hjn : j < n'
        · obtain ⟨g2, o2, s2, t2, rfl, hg2, he2, d1, d2⟩ := HP.out.cell j hjn
          have HE2 := hide he2
          clear he2
          have hjn' : (j : Int) < (n' : Int) := by omega
          have e1 := beq_str s2 b
          have HN : Hid (¬ (s2.data.toList = b.data.toList ∧ t2 = t) → ∀ k p, k < j + 1 → ps[k]? = some p → ¬ (p.base.data.toList = b.data.toList ∧ p.tree = t)) := fun hh k p hk hq => by
            by_cases e : k < j
            · exact HJ.out k p e hq
            · obtain rfl : k = j := by omega
              rw [HE2.out] at hq
              cases hq
              exact hh
          have HH : Hid (s2.data.toList = b.data.toList → t2 = t → Holds ls b.data.toList t i) := fun h1 h2 => ⟨_, HE.out, _, List.mem_of_getElem? HE2.out, h1, h2⟩
          by_cases h1 : s2.data.toList = b.data.toList
          · by_cases h2 : t2 = t
            · have HH2 := hide (HH.out h1 h2)
              subst h2
              rw [decide_eq_true h1] at e1
              clear h1
              by_cases hf : f < 0
              · have HF2 := hide (HF.out.first HH2.out hf)
                go_wp2
                go_round
                case rel => exact ⟨i + 1, _, _, by omega, rfl, rfl, by go_num, HF2⟩
                case measure => simp [intOf]; omega
              · have hf' : decide (f < 0) = false := decide_eq_false hf
                by_cases hs : s < 0
                · have HF2 := hide (HF.out.second HH2.out hf hs)
                  go_wp2
                  go_round
                  case rel => exact ⟨i + 1, _, _, by omega, rfl, rfl, by go_num, HF2⟩
                  case measure => simp [intOf]; omega
                · have hs' : decide (s < 0) = false := decide_eq_false hs
                  have HF2 := hide (HF.out.keep hf hs)
                  go_wp2
                  go_round
                  case rel => exact ⟨i + 1, _, _, by omega, rfl, rfl, by go_num, HF2⟩
                  case measure => simp [intOf]; omega
            · have HN2 := hide (HN.out (fun h => h2 h.2))
              rw [decide_eq_true h1] at e1
              have h2' : (t2 == t) = false := by simp [h2]
              clear h1
              go_wp2
              go_round
              case rel => exact ⟨j + 1, by omega, rfl, rfl, by go_num, HN2⟩
              case measure => simp [intOf]; omega
          · have HN2 := hide (HN.out (fun h => h1 h.1))
            rw [decide_eq_false h1] at e1
            clear h1
            go_wp2
            go_round
            case rel => exact ⟨j + 1, by omega, rfl, rfl, by go_num, HN2⟩
            case measure => simp [intOf]; omega
        · obtain rfl : j = n' := by omega
          have HF2 : Hid (First2 ls b.data.toList t (i + 1) f s) := by
            refine hide (HF.out.skip ?_)
            rintro ⟨l, hl, p, hp, h1, h2⟩
            rw [HE.out] at hl
            cases hl
            obtain ⟨k, hk, rfl⟩ := List.getElem_of_mem hp
            exact HJ.out k _ (by rw [← HP.out.len]; exact hk) (List.getElem?_eq_getElem hk) ⟨h1, h2⟩
          go_wp2
          go_round
          case rel => exact ⟨i + 1, _, _, by omega, rfl, rfl, by go_num, HF2⟩
          case measure => simp [intOf]; omega
    · obtain rfl : i = n := by omega
      go_wp2
      refine bodyPost_ret (v := .tuple #[.int .i64 f, .int .i64 s]) (by simp [results, Try.results17, go_sem]) rfl ?_
      exact ⟨f, s, rfl, by rw [HL.out.len]; exact HF.out, rfl⟩
/-- The walk's verdict. -/
def verd (f s : Int) (b : ByteArray) (t : Bool) (u : ByteArray) : Value :=
  if 0 ≤ s then .tuple #[.int .i64 (-1), .string ⟨#[]⟩, .bool true, .string (spellB b t), .int .i64 f, .int .i64 s] else .tuple #[.int .i64 f, .string u, .bool false, .string ⟨#[]⟩, .int .i64 (-1), .int .i64 (-1)]
set_option maxHeartbeats 4000000 in
theorem verdict_any (f s : Int) (b u : ByteArray) (t : Bool) (w : World) (hb : b.size ≤ 1048576) :
    Calls Try.prog 18 #[.int .i64 f, .int .i64 s, .string b, .bool t, .string u] w fun e w' => e = .returned (verd f s b t u) ∧ w' = w := by
  obtain ⟨r, HR⟩ : ∃ r, Hid (verd f s b t u = r) := ⟨_, rfl⟩
  rw [HR.out]
  have ZS := hide (fun W => zzspell_any b t W hb)
  by_cases hs : 0 ≤ s
  · have hr : Hid (r = .tuple #[.int .i64 (-1), .string ⟨#[]⟩, .bool true, .string (spellB b t), .int .i64 f, .int .i64 s]) := by rw [← HR.out]; exact hide (by simp [verd, hs])
    go_enter Try.func18, Try.ntmps18
    go_wp2_with (go_at_call 23; refine (ZS.out _).mono ?_; rintro e w' ⟨rfl, rfl⟩)
    refine bodyPost_ret (v := .tuple #[.int .i64 (-1), .string ⟨#[]⟩, .bool true, .string (spellB b t), .int .i64 f, .int .i64 s]) (by simp [results, Try.results18, go_sem]) rfl ?_
    exact ⟨by rw [hr.out], rfl⟩
  · have hr : Hid (r = .tuple #[.int .i64 f, .string u, .bool false, .string ⟨#[]⟩, .int .i64 (-1), .int .i64 (-1)]) := by rw [← HR.out]; exact hide (by simp [verd, hs])
    have hs' : decide (0 ≤ s) = false := decide_eq_false hs
    go_enter Try.func18, Try.ntmps18
    go_wp2_with (go_at_call 23; refine (ZS.out _).mono ?_; rintro e w' ⟨rfl, rfl⟩)
    refine bodyPost_ret (v := .tuple #[.int .i64 f, .string u, .bool false, .string ⟨#[]⟩, .int .i64 (-1), .int .i64 (-1)]) (by simp [results, Try.results18, go_sem]) rfl ?_
    exact ⟨by rw [hr.out], rfl⟩
end Go.Proofs.Qxb6616084a
