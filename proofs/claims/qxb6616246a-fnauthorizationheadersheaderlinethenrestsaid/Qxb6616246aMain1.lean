/-
  The law of the bare value: the walk.
-/
import Derived.Test.Qxb6616246aMain2
import Derived.Deep.RegionWith
namespace Go.Proofs.Qxb6616246a
set_option linter.unusedVariables false
open Go.RowKit
def pair1 (n : Nat) (S : List (Int × Int)) : List (Int × Int) := ((15 : Int), (15 : Int) + n) :: S.map (moved (16 + n))
theorem law1 (a0 a1 : ByteArray) (h : Bare a0) :
    scan ({ data := #[65, 117, 116, 104, 111, 114, 105, 122, 97, 116, 105, 111, 110, 58, 32] } ++ a0 ++ { data := #[10] } ++ a1 : ByteArray).data.toList (lowB ({ data := #[65, 117, 116, 104, 111, 114, 105, 122, 97, 116, 105, 111, 110, 58, 32] } ++ a0 ++ { data := #[10] } ++ a1 : ByteArray)).data.toList 0
      = pair1 a0.size (scan a1.data.toList (lowB a1).data.toList 0) := by
  have e : ({ data := #[65, 117, 116, 104, 111, 114, 105, 122, 97, 116, 105, 111, 110, 58, 32] } ++ a0 ++ { data := #[10] } ++ a1 : ByteArray).data.toList
      = [65, 117, 116, 104, 111, 114, 105, 122, 97, 116, 105, 111, 110] ++ 58 :: 32 :: (a0.data.toList ++ 10 :: a1.data.toList) := by
    rw [app_list, app_list, app_list]; simp
  obtain ⟨h0, hb, hq, hl⟩ := h
  rw [lowB_list, lowB_list, e, law_bare _ a0.data.toList a1.data.toList rfl (by decide +kernel) ?_ ?_ ?_ ?_, len_eq]
  · rfl
  · intro h1
    have := len_eq a0
    rw [h1] at this
    simp at this
    omega
  · rw [ob_some blank a0 h0]; exact hb
  · rw [ob_some quoteB a0 h0]; exact hq
  · intro c hc
    obtain ⟨j, hj, rfl⟩ := List.getElem_of_mem hc
    exact hl j (by rw [len_eq] at hj; exact hj)
theorem full1_size (a0 a1 : ByteArray) : ({ data := #[65, 117, 116, 104, 111, 114, 105, 122, 97, 116, 105, 111, 110, 58, 32] } ++ a0 ++ { data := #[10] } ++ a1 : ByteArray).size = 16 + a0.size + a1.size := by
  rw [Lib.size_eq, app_list, app_list, app_list]
  simp only [List.length_append, len_eq]
  simp
  omega
theorem pair1_length (n : Nat) (S : List (Int × Int)) : (pair1 n S).length = S.length + 1 := by simp [pair1]
theorem old_cell {w w3 wr : World} {o : Obj} {a : Addr} {v : Value} (H : Below w.heap.size w w3) (S : Still w3.heap.size w3.heap.size (w3.alloc o) wr) (h : w.cell? a = some v) : wr.cell? a = some v := by
  have hlt := World.block_lt_of_cell? w a h
  have hs := H.size
  rw [World.cell?_of_block (w := w3.alloc o) (S.block a.block (by simp; omega) (by omega) (.inl (by omega))), World.cell?_of_block (w := w3) (Below.heap_alloc _ _ _ (by omega)), H.cell hlt]
  exact h
theorem zip_snoc (l3 l4 : List Int) (k : Nat) (h3 : k < l3.length) (h4 : k < l4.length) : (l3.zip l4).take (k + 1) = (l3.zip l4).take k ++ [(l3.getD k 0, l4.getD k 0)] := by
  rw [List.take_succ_eq_append_getElem (by rw [List.length_zip]; omega)]
  simp [List.getD, List.getElem?_eq_getElem h3, List.getElem?_eq_getElem h4]
/-- What the comparisons read. -/
theorem rows1 {w : World} {n : Nat} {S : List (Int × Int)} {l3 l4 : List Int} {pa pe p3 p4 : Option Addr} {ca ce c3 c4 cf cg gf gg of og B : Nat} (P1 : Reads w (.slice pa S.length ca) (S.map Prod.fst)) (P2 : Reads w (.slice pe S.length ce) (S.map Prod.snd))
    (P3 : Reads w (.slice p3 l3.length c3) l3) (P4 : Reads w (.slice p4 l4.length c4) l4)
    (P5 : Reads w (.slice (some ⟨gf, of, none⟩) (l3.length + 1 + S.length) cf) ((l3.zip l4 ++ pair1 n S).map Prod.fst)) (P6 : Reads w (.slice (some ⟨gg, og, none⟩) (l3.length + 1 + S.length) cg) ((l3.zip l4 ++ pair1 n S).map Prod.snd))
    (BN : ∀ x ∈ S, 0 ≤ x.1 ∧ x.1 ≤ (B : Int) ∧ 0 ≤ x.2 ∧ x.2 ≤ (B : Int)) (h34 : l3.length ≤ l4.length) (h43 : l4.length ≤ l3.length) :
    (w.cell? ⟨gf, of + l3.length, none⟩ = some (.int .i64 15) ∧ w.cell? ⟨gg, og + l3.length, none⟩ = some (.int .i64 (15 + (n : Int)))) ∧
    (∀ k, k < l3.length → ∃ x y : Int, (∃ g o, p3 = some ⟨g, o, none⟩ ∧ w.cell? ⟨g, o + k, none⟩ = some (.int .i64 x)) ∧ (∃ g o, p4 = some ⟨g, o, none⟩ ∧ w.cell? ⟨g, o + k, none⟩ = some (.int .i64 y)) ∧
      w.cell? ⟨gf, of + k, none⟩ = some (.int .i64 x) ∧ w.cell? ⟨gg, og + k, none⟩ = some (.int .i64 y)) ∧
    (∀ k, k < S.length → ∃ x y : Int, 0 ≤ x ∧ x ≤ B ∧ 0 ≤ y ∧ y ≤ B ∧ (∃ g o, pa = some ⟨g, o, none⟩ ∧ w.cell? ⟨g, o + k, none⟩ = some (.int .i64 x)) ∧ (∃ g o, pe = some ⟨g, o, none⟩ ∧ w.cell? ⟨g, o + k, none⟩ = some (.int .i64 y)) ∧
      w.cell? ⟨gf, of + (l3.length + 1 + k), none⟩ = some (.int .i64 (x + (16 + (n : Int)))) ∧ w.cell? ⟨gg, og + (l3.length + 1 + k), none⟩ = some (.int .i64 (y + (16 + (n : Int))))) := by
  have hz : (l3.zip l4).length = l3.length := by rw [List.length_zip]; omega
  obtain ⟨a1, c1, h1, q1⟩ := P1
  obtain ⟨a2, c2, h2, q2⟩ := P2
  obtain ⟨a3, c3, h3, q3⟩ := P3
  obtain ⟨a4, c4, h4, q4⟩ := P4
  obtain ⟨a5, c5, h5, q5⟩ := P5
  obtain ⟨a6, c6, h6, q6⟩ := P6
  simp only [Value.slice.injEq] at h1 h2 h3 h4 h5 h6
  obtain ⟨rfl, _, _⟩ := h1
  obtain ⟨rfl, _, _⟩ := h2
  obtain ⟨rfl, _, _⟩ := h3
  obtain ⟨rfl, _, _⟩ := h4
  obtain ⟨e5, _, _⟩ := h5
  obtain ⟨e6, _, _⟩ := h6
  subst e5 e6
  have f5 : ∀ k, k < l3.length + 1 + S.length → w.cell? ⟨gf, of + k, none⟩ = some (.int .i64 (((l3.zip l4 ++ pair1 n S).map Prod.fst).getD k 0)) := by
    intro k hk
    obtain ⟨g, o, e, h⟩ := q5 k (by rw [List.length_map, List.length_append, pair1_length, hz]; omega)
    simp only [Option.some.injEq, Addr.mk.injEq] at e
    obtain ⟨rfl, rfl, _⟩ := e
    exact h
  have f6 : ∀ k, k < l3.length + 1 + S.length → w.cell? ⟨gg, og + k, none⟩ = some (.int .i64 (((l3.zip l4 ++ pair1 n S).map Prod.snd).getD k 0)) := by
    intro k hk
    obtain ⟨g, o, e, h⟩ := q6 k (by rw [List.length_map, List.length_append, pair1_length, hz]; omega)
    simp only [Option.some.injEq, Addr.mk.injEq] at e
    obtain ⟨rfl, rfl, _⟩ := e
    exact h
  refine ⟨⟨?_, ?_⟩, fun k hk => ?_, fun k hk => ?_⟩
  · rw [f5 _ (by omega)]
    rw [List.getD, List.getElem?_map, List.getElem?_append_right (by omega), hz]
    simp [pair1]
  · rw [f6 _ (by omega)]
    rw [List.getD, List.getElem?_map, List.getElem?_append_right (by omega), hz]
    simp [pair1]
  · refine ⟨_, _, q3 k hk, q4 k (by omega), ?_, ?_⟩
    · rw [f5 _ (by omega), List.getD, List.getElem?_map, List.getElem?_append_left (by omega)]
      rw [List.getElem?_eq_getElem (show k < (l3.zip l4).length by omega)]
      simp [List.getD, List.getElem?_eq_getElem hk]
    · rw [f6 _ (by omega), List.getD, List.getElem?_map, List.getElem?_append_left (by omega)]
      rw [List.getElem?_eq_getElem (show k < (l3.zip l4).length by omega)]
      simp [List.getD, List.getElem?_eq_getElem (show k < l4.length by omega)]
  · have hb := BN S[k] (List.getElem_mem hk)
    have k1 := q1 k (by simpa using hk)
    have k2 := q2 k (by simpa using hk)
    have g1 : (S.map Prod.fst).getD k 0 = S[k].1 := by simp [List.getD, List.getElem?_eq_getElem hk]
    have g2 : (S.map Prod.snd).getD k 0 = S[k].2 := by simp [List.getD, List.getElem?_eq_getElem hk]
    rw [g1] at k1
    rw [g2] at k2
    refine ⟨S[k].1, S[k].2, hb.1, hb.2.1, hb.2.2.1, hb.2.2.2, k1, k2, ?_, ?_⟩
    · rw [f5 _ (by omega), List.getD, List.getElem?_map, List.getElem?_append_right (by omega), hz, show l3.length + 1 + k - l3.length = k + 1 from by omega]
      simp [pair1, List.getElem?_eq_getElem hk, moved]
    · rw [f6 _ (by omega), List.getD, List.getElem?_map, List.getElem?_append_right (by omega), hz, show l3.length + 1 + k - l3.length = k + 1 from by omega]
      simp [pair1, List.getElem?_eq_getElem hk, moved]
set_option maxRecDepth 100000 in
set_option maxHeartbeats 4000000 in
theorem main1 (a0 a1 a2 : ByteArray) (v3 v4 : Value) (l3 l4 : List Int) (m : Int) (w : World) (h0 : a0.size ≤ maxLen) (h1 : a1.size ≤ maxLen) (h2 : a2.size ≤ maxLen) (h3 : Reads w v3 l3) (h4 : Reads w v4 l4)
    (h3l : l3.length ≤ maxLen) (h4l : l4.length ≤ maxLen) (hm : w.cell? ⟨0, 0, none⟩ = some (.int .i64 m)) :
    Calls Try.prog 3 #[.string a0, .string a1, .string a2, v3, v4] w fun e w' => e = .returned (.bool true) ∧ Below w.heap.size w w' := by
  have R3 := hide h3
  have R4 := hide h4
  obtain ⟨p3, c3, rfl, q3⟩ := h3
  obtain ⟨p4, c4, rfl, q4⟩ := h4
  have BY := hide (bytes1 a0 a1 a2 p3 p4 l3.length c3 l4.length c4 w h0 h1 h2 h3l h4l)
  have Q3 := hide q3
  have Q4 := hide q4
  have HM := hide hm
  unfold maxLen at h0 h1 h2 h3l h4l
  clear hm q3 q4
  go_enter Try.func3, Try.ntmps3
  go_wp2_with (go_at_call 6; refine BY.out.mono ?_; rintro e w' ⟨b, rfl, rfl⟩)
  all_goals first
    | (go_ret; exact ⟨rfl, Below.refl _ _⟩)
    | skip
  have k0 : (a0.size : Int) ≤ 262144 := by assumption
  have k1 : (a1.size : Int) ≤ 262144 := by assumption
  have k2 : (a2.size : Int) ≤ 262144 := by assumption
  have k3 : (l3.length : Int) ≤ 4096 := by assumption
  have k4 : (l4.length : Int) ≤ 4096 := by assumption
  have hne : ((l3.length : Int) != (l4.length : Int)) = false := by assumption
  have hl34 : l3.length ≤ l4.length := by simp at hne; omega
  have hl43 : l4.length ≤ l3.length := by simp at hne; omega
  clear h0 h1 h2 BY h3l h4l
  refine (lower_any a1 w (by omega)).mono ?_
  rintro e w1 ⟨rfl, hb1⟩
  have H1 := hide hb1
  clear hb1
  have hz1 := H1.out.size
  by_cases hL : a2 = lowB a1
  · subst hL
    have hn : (!((lowB a1).toList == (lowB a1).toList)) = false := by simp
    have CT := hide (bare_any a0 w1 (by omega))
    go_wp2_with (go_at_call 8; refine CT.out.mono ?_; rintro e w' ⟨rfl, hc⟩; rcases hc with rfl | ⟨rfl, hC⟩)
    · go_ret
      exact ⟨rfl, H1.out⟩
    have AS := hide (authSpans_any a1 (lowB a1) m w1 (by omega) (lowB_size a1) (by rw [H1.out.cell (p := ⟨0, 0, none⟩) (World.block_lt_of_cell? w ⟨0, 0, none⟩ HM.out)]; exact HM.out))
    refine AS.out.mono ?_
    rintro e w2 ⟨vs, ve, rfl, hT, hb2⟩
    have R1 := hide (reads_own hT.1)
    have R2 := hide (reads_own hT.2.1)
    have H2 := hide (H1.out.trans (hb2.mono hz1))
    clear hT hb2 AS CT
    have LAW := hide (law1 a0 a1 hC)
    have hSl := scan_len2 a1
    have FS := hide (full1_size a0 a1)
    have BN := hide (scan_bounds a1.data.toList (lowB a1).data.toList (by rw [len_eq, len_eq]; exact lowB_size a1))
    have hlen1 := len_eq a1
    rw [hlen1] at BN
    clear hlen1
    generalize scan a1.data.toList (lowB a1).data.toList 0 = S at R1 R2 LAW hSl BN
    obtain ⟨pa, ca, hva, qa⟩ := R1.out
    obtain ⟨pe, ce, hve, qe⟩ := R2.out
    rw [List.length_map] at hva hve
    subst hva hve
    clear qa qe
    go_wp2_with fail
    generalize ({ data := #[65, 117, 116, 104, 111, 114, 105, 122, 97, 116, 105, 111, 110, 58, 32] } ++ a0 ++ { data := #[10] } ++ a1 : ByteArray) = F at LAW FS ⊢
    have hF : F.size ≤ 600000 := by have := FS.out; omega
    refine (lower_any F w2 (by omega)).mono ?_
    rintro e w3 ⟨rfl, hb3⟩
    have H3 := hide (H2.out.trans (hb3.mono H2.out.size))
    have R1' := hide (R1.out.below hb3 rfl)
    have R2' := hide (R2.out.below hb3 rfl)
    clear hb3 R1 R2 H1 H2 hz1
    go_wp2_with (go_at_call 10; refine (newScan_any _ _ _).mono ?_; rintro e w4 ⟨rfl, rfl⟩)
    have SC0 := hide (scan_new F (lowB F) w3 w3.heap.size)
    go_loopw [15] (fun i wr => ∃ k : Nat, k ≤ l3.length ∧ i = .int .i64 k ∧ Hid (ScanAt wr w3.heap.size w3.heap.size F (lowB F) ((l3.zip l4).take k)) ∧ Hid (Still w3.heap.size w3.heap.size (w3.alloc (.cells #[.string F, .string (lowB F), .map none, .slice none 0 0] 43)) wr)) (fun i _ => l3.length - (intOf i).toNat)
    case atStart => exact ⟨0, by omega, rfl, SC0, Still.refl _ _ _⟩
    case round =>
      obtain ⟨k, hk, rfl, HS, HW⟩ := hrel
      by_cases hlt : k < l3.length
      · obtain ⟨g1, o1, rfl, q1⟩ := Q3.out k hlt
        obtain ⟨g2, o2, rfl, q2⟩ := Q4.out k (by omega)
        have d1 : wr.cell? ⟨g1, o1 + k, none⟩ = some (.int .i64 (l3.getD k 0)) := old_cell H3.out HW.out q1
        have d2 : wr.cell? ⟨g2, o2 + k, none⟩ = some (.int .i64 (l4.getD k 0)) := old_cell H3.out HW.out q2
        have TK := hide (zip_snoc l3 l4 k hlt (by omega))
        clear q1 q2
        generalize l3.getD k 0 = x at d1 TK
        generalize l4.getD k 0 = y at d2 TK
        have hws : w3.heap.size ≤ wr.heap.size := by have := HW.out.size; simp at this; omega
        have AD : Hid (∀ n, Calls Try.prog 11 #[.pointer (some ⟨w3.heap.size, 0, none⟩), .int .i64 x, .int .i64 y] (wr.drewN n) fun e w' => e = .returned (.tuple #[]) ∧ ScanAt w' w3.heap.size w3.heap.size F (lowB F) ((l3.zip l4).take k ++ [(x, y)]) ∧ Still w3.heap.size w3.heap.size wr w') := by
          intro n
          refine (scanAdd_any w3.heap.size w3.heap.size F (lowB F) _ x y (wr.drewN n) (HS.out.drewN n) (by rw [List.length_take]; omega) hws).mono ?_
          rintro e w' ⟨rfl, h1, h2⟩
          exact ⟨rfl, h1, ((Still.refl _ _ wr).drewN n).trans h2⟩
        go_wp2
        go_region_with (go_at_call 11; refine (AD.out 1).mono ?_; rintro e w' ⟨rfl, hA, hS⟩)
        all_goals
          go_wp2
          go_roundw
          case rel => exact ⟨k + 1, by omega, by go_num, by rw [TK.out]; exact hA, HW.out.trans hS⟩
          case measure => simp [intOf]; omega
      · have ek : (l3.zip l4).take k = l3.zip l4 := List.take_of_length_le (by rw [List.length_zip]; omega)
        rw [ek] at HS
        clear ek
        have hzl : (l3.zip l4).length = l3.length := by rw [List.length_zip]; omega
        have AU := hide (zzauth_any w3.heap.size w3.heap.size F (lowB F) (l3.zip l4) m wr (by omega) (lowB_size F) (by omega)
          (Nat.lt_of_lt_of_le (World.block_lt_of_cell? w ⟨0, 0, none⟩ HM.out) H3.out.size) (Nat.lt_of_lt_of_le (World.block_lt_of_cell? w ⟨0, 0, none⟩ HM.out) H3.out.size)
          (old_cell H3.out HW.out HM.out) HS.out (by have := HW.out.size; simp at this; omega))
        rw [LAW.out] at AU
        go_wp2_with (go_at_call 12; refine AU.out.mono ?_; rintro e w6 ⟨rfl, hA, hS⟩)
        have SP := hide (spans_any _ _ _ _ _ w6 hA (by rw [List.length_append, pair1_length]; omega))
        have H6 : Hid (Below w3.heap.size w3 w6) := by
          have b1 : Below w3.heap.size w3 (w3.alloc (.cells #[.string F, .string (lowB F), .map none, .slice none 0 0] 43)) := (Below.refl _ _).alloc (Nat.le_refl _) _
          exact b1.trans ((HW.out.trans hS).below (Nat.le_refl _) (Nat.le_refl _) (by simp))
        clear AU hA hS HS HW SC0 LAW
        refine SP.out.mono ?_
        rintro e w7 ⟨vs, ve, rfl, hT, hb7⟩
        have H7 := hide (H6.out.trans (hb7.mono H6.out.size))
        have H8 := hide (H3.out.trans (H7.out.mono H3.out.size))
        have P1 := hide (R1'.out.below H7.out rfl)
        have P2 := hide (R2'.out.below H7.out rfl)
        have P3 := hide (R3.out.below H8.out rfl)
        have P4 := hide (R4.out.below H8.out rfl)
        have P5 := hide (reads_own hT.1)
        have P6 := hide (reads_own hT.2.1)
        clear hT hb7 SP H6 H7 R1' R2' R3 R4 Q3 Q4 H3
        obtain ⟨pf, cf, hvf, qf⟩ := P5.out
        obtain ⟨pg, cg, hvg, qg⟩ := P6.out
        have eL : (l3.zip l4 ++ pair1 a0.size S).length = l3.length + 1 + S.length := by rw [List.length_append, pair1_length, hzl]; omega
        rw [List.length_map, eL] at hvf hvg
        subst hvf hvg
        obtain ⟨gf, of, rfl, hx1⟩ := qf 0 (by rw [List.length_map, eL]; omega)
        obtain ⟨gg, og, rfl, hx2⟩ := qg 0 (by rw [List.length_map, eL]; omega)
        clear qf qg eL hzl hx1 hx2
        have M := hide (rows1 P1.out P2.out P3.out P4.out P5.out P6.out BN.out hl34 hl43)
        clear P1 P2 P3 P4 P5 P6 BN
        go_wp2
        go_loopw [19] (fun i wr => ∃ k n : Nat, k ≤ l3.length ∧ i = .int .i64 k ∧ wr = w7.drewN n) (fun i _ => l3.length - (intOf i).toNat)
        case atStart => exact ⟨0, 0, by omega, rfl, rfl⟩
        case round =>
          obtain ⟨k5, n5, hk5, rfl, rfl⟩ := hrel
          by_cases hlt5 : k5 < l3.length
          · obtain ⟨x, y, r1, r2, r3, r4⟩ := M.out.2.1 k5 hlt5
            obtain ⟨g1, o1, rfl, q1⟩ := r1
            obtain ⟨g2, o2, rfl, q2⟩ := r2
            go_wp2
            go_quiet (fail)
            go_wp2
            go_roundw
            case rel => exact ⟨k5 + 1, _, by omega, by go_num, rfl⟩
            case measure => simp [intOf]; omega
          · obtain ⟨s1, s2⟩ := M.out.1
            go_wp2
            go_loopw [21] (fun i wr => ∃ k n : Nat, k ≤ S.length ∧ i = .int .i64 k ∧ wr = w7.drewN n) (fun i _ => S.length - (intOf i).toNat)
            case atStart => exact ⟨0, _, by omega, rfl, rfl⟩
            case round =>
              obtain ⟨k6, n6, hk6, rfl, rfl⟩ := hrel
              by_cases hlt6 : k6 < S.length
              · obtain ⟨x, y, bx0, bx1, by0, by1, r1, r2, r3, r4⟩ := M.out.2.2 k6 hlt6
                obtain ⟨g1, o1, rfl, q1⟩ := r1
                obtain ⟨g2, o2, rfl, q2⟩ := r2
                go_wp2
                go_quiet (fail)
                go_wp2
                go_roundw
                case rel => exact ⟨k6 + 1, _, by omega, by go_num, rfl⟩
                case measure => simp [intOf]; omega
              · go_wp2
                go_ret
                exact ⟨rfl, ⟨H8.out.os, H8.out.tape, H8.out.output, H8.out.size, H8.out.block⟩⟩
  · have hn : (a2.toList == (lowB a1).toList) = false := by
      apply Bool.eq_false_iff.2
      intro h
      rw [beq_iff_eq, Lib.toList_data, Lib.toList_data] at h
      exact hL (by rw [← Lib.mk_data a2, ← Lib.mk_data (lowB a1), h])
    go_wp2_with fail
    go_ret
    exact ⟨rfl, H1.out⟩
end Go.Proofs.Qxb6616246a
