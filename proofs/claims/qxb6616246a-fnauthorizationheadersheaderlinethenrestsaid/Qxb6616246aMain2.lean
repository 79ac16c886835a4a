/-
  The law of the quoted value: the walk.
-/
import Derived.Test.Qxb6616246aSame
import Derived.Test.Qxb6616246aGuards
import Derived.Test.Qxb6616246aLower
import Derived.Test.Qxb6616246aSwap
namespace Go.Proofs.Qxb6616246a
set_option linter.unusedVariables false
open Go.RowKit
theorem lowB_size (s : ByteArray) : (lowB s).size = s.size := by
  rw [Lib.size_eq, Lib.size_eq]; simp [lowB]
theorem lowB_list (s : ByteArray) : (lowB s).data.toList = lowL s.data.toList := by simp [lowB, lowL]
theorem app_list (a b : ByteArray) : (a ++ b).data.toList = a.data.toList ++ b.data.toList := by simp
def pair2 (n : Nat) (S : List (Int × Int)) : List (Int × Int) := ((16 : Int), (16 : Int) + n) :: S.map (moved (18 + n))
theorem law2 (a0 a1 : ByteArray) (h : Content a0) :
    scan ({ data := #[65, 85, 84, 72, 79, 82, 73, 90, 65, 84, 73, 79, 78, 58, 32, 34] } ++ a0 ++ { data := #[34, 10] } ++ a1 : ByteArray).data.toList (lowB ({ data := #[65, 85, 84, 72, 79, 82, 73, 90, 65, 84, 73, 79, 78, 58, 32, 34] } ++ a0 ++ { data := #[34, 10] } ++ a1 : ByteArray)).data.toList 0
      = pair2 a0.size (scan a1.data.toList (lowB a1).data.toList 0) := by
  have e : ({ data := #[65, 85, 84, 72, 79, 82, 73, 90, 65, 84, 73, 79, 78, 58, 32, 34] } ++ a0 ++ { data := #[34, 10] } ++ a1 : ByteArray).data.toList
      = [65, 85, 84, 72, 79, 82, 73, 90, 65, 84, 73, 79, 78] ++ 58 :: 32 :: 34 :: (a0.data.toList ++ 34 :: 10 :: a1.data.toList) := by
    rw [app_list, app_list, app_list]; simp
  rw [lowB_list, lowB_list, e, law_quoted _ a0.data.toList a1.data.toList rfl (by decide +kernel) ?_ ?_, len_eq]
  · rfl
  · intro h0
    have := len_eq a0
    rw [h0] at this
    have := h.1
    simp at *
    omega
  · intro c hc
    obtain ⟨j, hj, rfl⟩ := List.getElem_of_mem hc
    exact h.2 j (by rw [len_eq] at hj; exact hj)
theorem scan_len2 (a1 : ByteArray) : (scan a1.data.toList (lowB a1).data.toList 0).length ≤ a1.size + 1 := by
  have := scan_length a1.data.toList (lowB a1).data.toList
  rw [len_eq, lowB_size] at this; exact this
theorem swapB_list (s : ByteArray) : (swapB s).data.toList = swapL s.data.toList := by simp [swapB, swapL]
theorem scan_swap2 (F : ByteArray) : scan (swapB F).data.toList (lowB (swapB F)).data.toList 0 = scan F.data.toList (lowB F).data.toList 0 := by
  rw [lowB_list, lowB_list, swapB_list]; exact law_swap _
theorem full2_size (a0 a1 : ByteArray) : ({ data := #[65, 85, 84, 72, 79, 82, 73, 90, 65, 84, 73, 79, 78, 58, 32, 34] } ++ a0 ++ { data := #[34, 10] } ++ a1 : ByteArray).size = 18 + a0.size + a1.size := by
  rw [Lib.size_eq, app_list, app_list, app_list]
  simp only [List.length_append, len_eq]
  simp
  omega
theorem scanF_bounds (t lo : List UInt8) (hl : lo.length = t.length) : ∀ n k, ∀ x ∈ scanF t lo n k, 0 ≤ x.1 ∧ x.1 ≤ t.length ∧ 0 ≤ x.2 ∧ x.2 ≤ t.length
  | 0, _ => by intro x hx; simp [scanF] at hx
  | n + 1, k => by
    intro x hx
    rw [scanF] at hx
    split at hx
    · split at hx
      · simp at hx
      · rw [List.mem_append] at hx
        rcases hx with hx | hx
        · generalize k + (Lib.index (lo.drop k) nameL).toNat = i at hx
          cases hm : matchAt t i with
          | none => rw [hm] at hx; simp [found] at hx
          | some p =>
            rw [hm] at hx
            simp only [found, List.mem_singleton] at hx
            subst hx
            have h1 := matchAt_bounds hm
            have h2 := matchAt_first hm
            simp only
            omega
        · exact scanF_bounds t lo hl n _ x hx
    · simp at hx
theorem scan_bounds (t lo : List UInt8) (hl : lo.length = t.length) : ∀ x ∈ scan t lo 0, 0 ≤ x.1 ∧ x.1 ≤ t.length ∧ 0 ≤ x.2 ∧ x.2 ≤ t.length := scanF_bounds t lo hl _ _
theorem pair2_length (n : Nat) (S : List (Int × Int)) : (pair2 n S).length = S.length + 1 := by simp [pair2]
theorem rows2 {w : World} {n k : Nat} {S : List (Int × Int)} {pa pe : Option Addr} {ca ce cf cg gf gg of og B : Nat} (P1 : Reads w (.slice pa S.length ca) (S.map Prod.fst)) (P2 : Reads w (.slice pe S.length ce) (S.map Prod.snd))
    (P3 : Reads w (.slice (some ⟨gf, of, none⟩) (S.length + 1) cf) ((pair2 n S).map Prod.fst)) (P4 : Reads w (.slice (some ⟨gg, og, none⟩) (S.length + 1) cg) ((pair2 n S).map Prod.snd))
    (BN : ∀ x ∈ S, 0 ≤ x.1 ∧ x.1 ≤ (B : Int) ∧ 0 ≤ x.2 ∧ x.2 ≤ (B : Int)) (hk : k < S.length) :
    ∃ x y : Int, 0 ≤ x ∧ x ≤ B ∧ 0 ≤ y ∧ y ≤ B ∧ (∃ g o, pa = some ⟨g, o, none⟩ ∧ w.cell? ⟨g, o + k, none⟩ = some (.int .i64 x)) ∧ (∃ g o, pe = some ⟨g, o, none⟩ ∧ w.cell? ⟨g, o + k, none⟩ = some (.int .i64 y)) ∧
      w.cell? ⟨gf, of + (1 + k), none⟩ = some (.int .i64 (x + (18 + (n : Int)))) ∧ w.cell? ⟨gg, og + (1 + k), none⟩ = some (.int .i64 (y + (18 + (n : Int)))) := by
  have hb := BN S[k] (List.getElem_mem hk)
  obtain ⟨a1, c1, h1, q1⟩ := P1
  obtain ⟨a2, c2, h2, q2⟩ := P2
  obtain ⟨a3, c3, h3, q3⟩ := P3
  obtain ⟨a4, c4, h4, q4⟩ := P4
  simp only [Value.slice.injEq] at h1 h2 h3 h4
  obtain ⟨rfl, _, _⟩ := h1
  obtain ⟨rfl, _, _⟩ := h2
  obtain ⟨e3, _, _⟩ := h3
  obtain ⟨e4, _, _⟩ := h4
  have k1 := q1 k (by simpa using hk)
  have k2 := q2 k (by simpa using hk)
  obtain ⟨g3, o3, e3', k3⟩ := q3 (1 + k) (by simp [pair2]; omega)
  obtain ⟨g4, o4, e4', k4⟩ := q4 (1 + k) (by simp [pair2]; omega)
  have f1 : (S.map Prod.fst).getD k 0 = S[k].1 := by simp [List.getD, List.getElem?_eq_getElem hk]
  have f2 : (S.map Prod.snd).getD k 0 = S[k].2 := by simp [List.getD, List.getElem?_eq_getElem hk]
  have f3 : ((pair2 n S).map Prod.fst).getD (1 + k) 0 = S[k].1 + (18 + (n : Int)) := by
    rw [Nat.add_comm]; simp [pair2, List.getD, List.getElem?_eq_getElem hk, moved]
  have f4 : ((pair2 n S).map Prod.snd).getD (1 + k) 0 = S[k].2 + (18 + (n : Int)) := by
    rw [Nat.add_comm]; simp [pair2, List.getD, List.getElem?_eq_getElem hk, moved]
  rw [f1] at k1
  rw [f2] at k2
  rw [f3] at k3
  rw [f4] at k4
  rw [← e3] at e3'
  rw [← e4] at e4'
  simp only [Option.some.injEq, Addr.mk.injEq] at e3' e4'
  obtain ⟨rfl, rfl, _⟩ := e3'
  obtain ⟨rfl, rfl, _⟩ := e4'
  exact ⟨S[k].1, S[k].2, hb.1, hb.2.1, hb.2.2.1, hb.2.2.2, k1, k2, k3, k4⟩
theorem swapB_size (s : ByteArray) : (swapB s).size = s.size := by
  rw [Lib.size_eq, Lib.size_eq]; simp [swapB]
set_option maxHeartbeats 4000000 in
theorem main2 (a0 a1 a2 : ByteArray) (m : Int) (w : World) (h0 : a0.size ≤ maxLen) (h1 : a1.size ≤ maxLen) (h2 : a2.size ≤ maxLen) (hm : w.cell? ⟨0, 0, none⟩ = some (.int .i64 m)) :
    Calls Try.prog 4 #[.string a0, .string a1, .string a2] w fun e w' => e = .returned (.bool true) ∧ Below w.heap.size w w' := by
  have BY := hide (bytes2 a0 a1 a2 w h0 h1 h2)
  have HM := hide hm
  unfold maxLen at h0 h1 h2
  clear hm
  go_enter Try.func4, Try.ntmps4
  go_wp2_with (go_at_call 14; refine BY.out.mono ?_; rintro e w' ⟨b, rfl, rfl⟩)
  all_goals first
    | (go_ret; exact ⟨rfl, Below.refl _ _⟩)
    | skip
  have k0 : (a0.size : Int) ≤ 262144 := by assumption
  have k1 : (a1.size : Int) ≤ 262144 := by assumption
  have k2 : (a2.size : Int) ≤ 262144 := by assumption
  clear h0 h1 h2 BY
  refine (lower_any a1 w (by omega)).mono ?_
  rintro e w1 ⟨rfl, hb1⟩
  have H1 := hide hb1
  clear hb1
  have hz1 := H1.out.size
  by_cases hL : a2 = lowB a1
  · subst hL
    have hn : (!((lowB a1).toList == (lowB a1).toList)) = false := by simp
    have CT := hide (content_any a0 w1 (by omega))
    go_wp2_with (go_at_call 15; refine CT.out.mono ?_; rintro e w' ⟨rfl, hc⟩; rcases hc with rfl | ⟨rfl, hC⟩)
    · go_ret
      exact ⟨rfl, H1.out⟩
    have AS := hide (authSpans_any a1 (lowB a1) m w1 (by omega) (lowB_size a1) (by rw [H1.out.cell (p := ⟨0, 0, none⟩) (World.block_lt_of_cell? w ⟨0, 0, none⟩ HM.out)]; exact HM.out))
    refine AS.out.mono ?_
    rintro e w2 ⟨vs, ve, rfl, hT, hb2⟩
    have R1 := hide (reads_own hT.1)
    have R2 := hide (reads_own hT.2.1)
    have H2 := hide (H1.out.trans (hb2.mono hz1))
    clear hT hb2 AS CT
    have LAW := hide (law2 a0 a1 hC)
    have SB := hide (scan_len2 a1)
    have hSl := SB.out
    have SW := hide (scan_swap2 ({ data := #[65, 85, 84, 72, 79, 82, 73, 90, 65, 84, 73, 79, 78, 58, 32, 34] } ++ a0 ++ { data := #[34, 10] } ++ a1))
    have FS := hide (full2_size a0 a1)
    have BN := hide (scan_bounds a1.data.toList (lowB a1).data.toList (by rw [len_eq, len_eq]; exact lowB_size a1))
    have hlen1 := len_eq a1
    rw [hlen1] at BN
    clear hlen1
    generalize scan a1.data.toList (lowB a1).data.toList 0 = S at R1 R2 LAW SB hSl BN
    obtain ⟨pa, ca, hva, qa⟩ := R1.out
    obtain ⟨pe, ce, hve, qe⟩ := R2.out
    rw [List.length_map] at hva hve
    subst hva hve
    clear qa qe
    go_wp2_with fail
    generalize ({ data := #[65, 85, 84, 72, 79, 82, 73, 90, 65, 84, 73, 79, 78, 58, 32, 34] } ++ a0 ++ { data := #[34, 10] } ++ a1 : ByteArray) = F at LAW SW FS ⊢
    have hF : F.size ≤ 600000 := by have := FS.out; omega
    refine (lower_any F w2 (by omega)).mono ?_
    rintro e w3 ⟨rfl, hb3⟩
    have H3 := hide (H2.out.trans (hb3.mono H2.out.size))
    have R1' := hide (R1.out.below hb3 rfl)
    have R2' := hide (R2.out.below hb3 rfl)
    clear hb3 R1 R2
    have AS := hide (authSpans_any F (lowB F) m w3 (by omega) (lowB_size F) (by rw [H3.out.cell (p := ⟨0, 0, none⟩) (World.block_lt_of_cell? w ⟨0, 0, none⟩ HM.out)]; exact HM.out))
    rw [LAW.out] at AS
    go_wp2_with fail
    refine AS.out.mono ?_
    rintro e w4 ⟨vs, ve, rfl, hT, hb4⟩
    have H4 := hide (H3.out.trans (hb4.mono H3.out.size))
    have P1 := hide (R1'.out.below hb4 rfl)
    have P2 := hide (R2'.out.below hb4 rfl)
    have P3 := hide (reads_own hT.1)
    have P4 := hide (reads_own hT.2.1)
    clear hT hb4 R1' R2' AS
    obtain ⟨pf, cf, hvf, qf⟩ := P3.out
    obtain ⟨pg, cg, hvg, qg⟩ := P4.out
    rw [List.length_map, pair2_length] at hvf hvg
    subst hvf hvg
    obtain ⟨gf, of, rfl, cf0⟩ := qf 0 (by simp [pair2])
    obtain ⟨gg, og, rfl, cg0⟩ := qg 0 (by simp [pair2])
    have cf0' : w4.cell? ⟨gf, of, none⟩ = some (.int .i64 16) := cf0
    have cg0' : w4.cell? ⟨gg, og, none⟩ = some (.int .i64 (16 + (a0.size : Int))) := cg0
    clear cf0 cg0 qf qg
    go_wp2
    go_loopw [13] (fun i wr => ∃ k n : Nat, k ≤ S.length ∧ i = .int .i64 k ∧ wr = w4.drewN n) (fun i _ => S.length - (intOf i).toNat)
    case atStart => exact ⟨0, 0, by omega, rfl, rfl⟩
    case round =>
      obtain ⟨k, n, hk, rfl, rfl⟩ := hrel
      by_cases hlt : k < S.length
      · obtain ⟨x, y, bx0, bx1, by0, by1, r1, r2, r3, r4⟩ := rows2 P1.out P2.out P3.out P4.out BN.out hlt
        obtain ⟨g1, o1, rfl, q1⟩ := r1
        obtain ⟨g2, o2, rfl, q2⟩ := r2
        go_wp2
        go_quiet (fail)
        go_wp2
        go_roundw
        case rel => exact ⟨k + 1, _, by omega, by go_num, rfl⟩
        case measure => simp [intOf]; omega
      · go_wp2_with fail
        have P5 := hide (P3.out.drewN n)
        have P6 := hide (P4.out.drewN n)
        have H5 : Hid (Below w.heap.size w (w4.drewN n)) := ⟨H4.out.os, H4.out.tape, H4.out.output, H4.out.size, H4.out.block⟩
        clear P1 P2 P3 P4 BN cf0' cg0' H4 H3 H2 H1
        generalize w4.drewN n = w5 at P5 P6 H5 ⊢
        refine (swap_any F w5 (by omega)).mono ?_
        rintro e w6 ⟨rfl, hb6⟩
        have H6 := hide (H5.out.trans (hb6.mono H5.out.size))
        have P7 := hide (P5.out.below hb6 rfl)
        have P8 := hide (P6.out.below hb6 rfl)
        clear hb6 P5 P6 H5
        have hFs := swapB_size F
        have SZ := hide hFs
        have LAW2 := hide (SW.out.trans LAW.out)
        clear hFs LAW SW
        generalize swapB F = G at SZ LAW2 ⊢
        have hG : G.size ≤ 600000 := by have := SZ.out; omega
        go_wp2_with fail
        refine (lower_any G w6 (by omega)).mono ?_
        rintro e w7 ⟨rfl, hb7⟩
        have H7 := hide (H6.out.trans (hb7.mono H6.out.size))
        have P9 := hide (P7.out.below hb7 rfl)
        have P10 := hide (P8.out.below hb7 rfl)
        clear hb7 P7 P8 H6
        have AS := hide (authSpans_any G (lowB G) m w7 (by omega) (lowB_size G) (by rw [H7.out.cell (p := ⟨0, 0, none⟩) (World.block_lt_of_cell? w ⟨0, 0, none⟩ HM.out)]; exact HM.out))
        rw [LAW2.out] at AS
        go_wp2_with fail
        refine AS.out.mono ?_
        rintro e w8 ⟨vs, ve, rfl, hT, hb8⟩
        have H8 := hide (H7.out.trans (hb8.mono H7.out.size))
        have S1 := hide (fun n => same_any vs _ _ (w8.drewN n) ((reads_own hT.1).drewN n) ((P9.out.below hb8 rfl).drewN n) (by rw [List.length_map, pair2_length]; omega))
        have S2 := hide (fun n => same_any ve _ _ (w8.drewN n) ((reads_own hT.2.1).drewN n) ((P10.out.below hb8 rfl).drewN n) (by rw [List.length_map, pair2_length]; omega))
        clear hT hb8 AS P9 P10 H7
        go_wp2_with fail
        refine (S1.out 0).mono ?_
        rintro e w9 ⟨rfl, n1, rfl⟩
        go_wp2_with fail
        refine (S2.out n1).mono ?_
        rintro e w10 ⟨rfl, n2, rfl⟩
        go_wp2
        go_ret
        exact ⟨rfl, ⟨H8.out.os, H8.out.tape, H8.out.output, H8.out.size, H8.out.block⟩⟩
  · have hn : (a2.toList == (lowB a1).toList) = false := by
      apply Bool.eq_false_iff.2
      intro h
      rw [beq_iff_eq, Lib.toList_data, Lib.toList_data] at h
      exact hL (by rw [← Lib.mk_data a2, ← Lib.mk_data (lowB a1), h])
    go_wp2_with fail
    go_ret
    exact ⟨rfl, H1.out⟩
end Go.Proofs.Qxb6616246a
