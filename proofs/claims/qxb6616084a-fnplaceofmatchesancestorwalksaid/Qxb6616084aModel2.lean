/-
  'zzModel'.
-/
import Derived.Test.Qxb6616084aModel
namespace Go.Proofs.Qxb6616084a
set_option linter.unusedVariables false
open Go.RowKit
theorem verd_tuple (f s : Int) (b : ByteArray) (t : Bool) (u : ByteArray) : ∃ x y z p i j, verd f s b t u = .tuple #[.int .i64 x, .string y, .bool z, .string p, .int .i64 i, .int .i64 j] := by
  unfold verd
  split
  · exact ⟨_, _, _, _, _, _, rfl⟩
  · exact ⟨_, _, _, _, _, _, rfl⟩
theorem verdict_at (f s : Int) (b u : ByteArray) (t : Bool) (w : World) (hb : b.size ≤ 1048576) : ∃ x y z p i j, verd f s b t u = .tuple #[.int .i64 x, .string y, .bool z, .string p, .int .i64 i, .int .i64 j] ∧
    Calls Try.prog 18 #[.int .i64 f, .int .i64 s, .string b, .bool t, .string u] w fun e w' => e = .returned (.tuple #[.int .i64 x, .string y, .bool z, .string p, .int .i64 i, .int .i64 j]) ∧ w' = w := by
  obtain ⟨x, y, z, p, i, j, h⟩ := verd_tuple f s b t u
  have hv := verdict_any f s b u t w hb
  rw [h] at hv
  exact ⟨x, y, z, p, i, j, h, hv⟩
def MPost (ls : List Layer) (d : ByteArray) (w : World) (e : Ending) (w' : World) : Prop :=
  w' = w ∧ ((Nn ls d.data.toList ∧ e = .returned (.tuple #[.int .i64 (-1), .string ⟨#[]⟩, .bool false, .string ⟨#[]⟩, .int .i64 (-1), .int .i64 (-1)])) ∨
    ∃ (b : ByteArray) (t : Bool) (f s : Int), b.size ≤ 1048576 ∧ Top ls d.data.toList b.data.toList t ∧ First2 ls b.data.toList t ls.length f s ∧ ¬ f < 0 ∧ e = .returned (verd f s b t ⟨(Un b.data.toList d.data.toList).toArray⟩))
theorem self_str (s : ByteArray) : (⟨s.data.toList.toArray⟩ : ByteArray) = s := by cases s; simp
theorem Clear.start {ls : List Layer} {d : List UInt8} (h1 : Free ls d false) (h2 : Free ls d true) : Clear ls d d.length := ⟨h1, h2, fun j hj h => by have := lt_some h; omega⟩
theorem Clear.other {ls : List Layer} {d : List UInt8} {i : Nat} (h : Clear ls d (i + 1)) (hn : d[i]? ≠ some 47) : Clear ls d i := ⟨h.1, h.2.1, fun j hj hh => by
  by_cases e : i + 1 ≤ j
  · exact h.2.2 j e hh
  · obtain rfl : j = i := by omega
    exact absurd hh hn⟩
theorem Clear.slash {ls : List Layer} {d : List UInt8} {i : Nat} (h : Clear ls d (i + 1)) (hn : Free ls (d.take i) true) : Clear ls d i := ⟨h.1, h.2.1, fun j hj hh => by
  by_cases e : i + 1 ≤ j
  · exact h.2.2 j e hh
  · obtain rfl : j = i := by omega
    exact hn⟩
set_option maxHeartbeats 8000000 in
set_option maxRecDepth 100000 in
theorem model_any (v : Value) (ls : List Layer) (d : ByteArray) (w : World) (hv : ReadsL w.heap.size v ls w) (ho : ∀ l ∈ ls, OkLayer l) (hd : d.size ≤ 1048576) (hds : NoDS d.data.toList) :
    Calls Try.prog 11 #[v, .string d] w fun e w' => MPost ls d w e w' := by
  have W17 := hide (fun b t => with_any v ls b t w hv)
  have HO := hide ho
  have HS := hide hds
  clear ho hds
  obtain ⟨a, n, cap, rfl, hn, hl⟩ := hv.at'
  clear hl hv
  go_enter Try.func11, Try.ntmps11
  go_upto_region 2 with (go_at_call 17; refine (W17.out d false).mono ?_; rintro e w' ⟨f1, s1, rfl, h1, rfl⟩; replace h1 := hide h1)
  by_cases hf1 : 0 ≤ f1
  · obtain ⟨x, y, z, p, i, j, hvd, cv⟩ := verdict_at f1 s1 d d false w hd
    have HVD := hide hvd
    have CV := hide cv
    clear hvd cv
    go_wp2_with (go_at_call 18; refine CV.out.mono ?_; rintro e w' ⟨rfl, rfl⟩)
    refine bodyPost_ret (v := .tuple #[.int .i64 x, .string y, .bool z, .string p, .int .i64 i, .int .i64 j]) (by simp [results, Try.results11, go_sem]) rfl ?_
    exact ⟨rfl, .inr ⟨d, false, f1, s1, hd, top_exact HO.out _, h1.out, by omega, by rw [un_self, self_str, HVD.out]⟩⟩
  · have hf1' : decide (0 ≤ f1) = false := decide_eq_false hf1
    have F1 := hide (h1.out.free (by omega))
    clear h1
    go_upto_region 5 with (go_at_call 17; refine (W17.out d true).mono ?_; rintro e w' ⟨f2, s2, rfl, h2, rfl⟩; replace h2 := hide h2)
    clear hf1 hf1'
    by_cases hf2 : 0 ≤ f2
    · obtain ⟨x, y, z, p, i, j, hvd, cv⟩ := verdict_at f2 s2 d d true w hd
      have HVD := hide hvd
      have CV := hide cv
      clear hvd cv
      go_wp2_with (go_at_call 18; refine CV.out.mono ?_; rintro e w' ⟨rfl, rfl⟩)
      refine bodyPost_ret (v := .tuple #[.int .i64 x, .string y, .bool z, .string p, .int .i64 i, .int .i64 j]) (by simp [results, Try.results11, go_sem]) rfl ?_
      exact ⟨rfl, .inr ⟨d, true, f2, s2, hd, top_tree F1.out, h2.out, by omega, by rw [un_self, self_str, HVD.out]⟩⟩
    · have hf2' : decide (0 ≤ f2) = false := decide_eq_false hf2
      have F2 := hide (h2.out.free (by omega))
      clear h2
      have e2 := beq_lit d [46]
      by_cases hdot : d.data.toList = dot
      · have HN : Hid (Nn ls d.data.toList) := by
          have h1 := F1.out
          have h2 := F2.out
          rw [hdot] at h1 h2 ⊢
          exact hide (none_dot h1 h2)
        rw [decide_eq_true (show d.data.toList = [46] from hdot)] at e2
        clear hdot
        go_wp2_with fail
        refine bodyPost_ret (v := .tuple #[.int .i64 (-1), .string ⟨#[]⟩, .bool false, .string ⟨#[]⟩, .int .i64 (-1), .int .i64 (-1)]) (by simp [results, Try.results11, go_sem]) rfl ?_
        exact ⟨rfl, .inl ⟨HN.out, rfl⟩⟩
      · rw [decide_eq_false (show ¬ d.data.toList = [46] from hdot)] at e2
        have HDOT := hide hdot
        clear hdot
        go_wp2_with fail
        go_loop [10, 11, 12, 13, 14] (fun s10 s11 s12 s13 s14 => ∃ k : Nat, k ≤ d.size ∧ s12 = .string ⟨(Pv d.data.toList k).toArray⟩ ∧ s13 = .int .i64 ((k : Int) - 1) ∧ Hid (Clear ls d.data.toList k)) (fun _ _ _ s13 _ => (intOf s13 + 1).toNat)
        case atStart => exact ⟨d.size, Nat.le_refl _, by rw [← size_str, pv_end, self_str], by go_num, by rw [← size_str]; exact Clear.start F1.out F2.out⟩
        case round =>
          obtain ⟨k, hk, rfl, rfl, HC⟩ := hrel
          cases k with
          | zero =>
            rw [show ((0 : Nat) : Int) - 1 = (-1 : Int) by omega]
            have hPv : Hid (Pv d.data.toList 0 = Un dot d.data.toList) := hide (un_dot HDOT.out).symm
            rw [hPv.out]
            go_upto_region 20 with (go_at_call 17; refine (W17.out ⟨#[46]⟩ true).mono ?_; rintro e w' ⟨f3, s3, rfl, h3, rfl⟩; replace h3 := hide h3)
            by_cases hf3 : 0 ≤ f3
            · obtain ⟨x, y, z, p, i, j, hvd, cv⟩ := verdict_at f3 s3 ⟨#[46]⟩ ⟨(Un dot d.data.toList).toArray⟩ true w (by show (1 : Nat) ≤ 1048576; omega)
              have HVD := hide hvd
              have CV := hide cv
              clear hvd cv
              go_wp2_with (go_at_call 18; refine CV.out.mono ?_; rintro e w' ⟨rfl, rfl⟩)
              refine bodyPost_ret (v := .tuple #[.int .i64 x, .string y, .bool z, .string p, .int .i64 i, .int .i64 j]) (by simp [results, Try.results11, go_sem]) rfl ?_
              exact ⟨rfl, .inr ⟨⟨#[46]⟩, true, f3, s3, by show (1 : Nat) ≤ 1048576; omega, top_root HC.out, h3.out, by omega, by rw [← HVD.out]; rfl⟩⟩
            · have hf3' : decide (0 ≤ f3) = false := decide_eq_false hf3
              have F3 := hide (h3.out.free (by omega))
              clear h3
              go_wp2_with fail
              refine bodyPost_ret (v := .tuple #[.int .i64 (-1), .string ⟨#[]⟩, .bool false, .string ⟨#[]⟩, .int .i64 (-1), .int .i64 (-1)]) (by simp [results, Try.results11, go_sem]) rfl ?_
              exact ⟨rfl, .inl ⟨none_root HC.out F3.out, rfl⟩⟩
          | succ i =>
            rw [show ((i + 1 : Nat) : Int) - 1 = (i : Int) by omega]
            have hlt : i < d.size := by omega
            have hlt' : (i : Int) < (d.size : Int) := by omega
            have hil : (i : Int) ≤ (d.size : Int) := by omega
            have hg := get_str d i hlt
            have e4 := byte47 (d[i]'hlt)
            by_cases h4 : (d[i]'hlt) = 47
            · rw [decide_eq_true h4] at e4
              have HG : Hid (d.data.toList[i]? = some 47) := by rw [hg, h4]; exact hide rfl
              have HE : Hid (d.extract 0 i = ⟨(d.data.toList.take i).toArray⟩) := by rw [ext_eq, List.drop_zero, Nat.sub_zero]; exact hide rfl
              have HEL : Hid ((d.extract 0 i).data.toList = d.data.toList.take i) := by rw [HE.out]; exact hide rfl
              have HU : Hid (Pv d.data.toList (i + 1) = Un (d.extract 0 i).data.toList d.data.toList) := by rw [HEL.out]; exact hide (un_take (by rw [size_str]; exact hlt) (not_dot HS.out HG.out)).symm
              have hes : (d.extract 0 i).size ≤ 1048576 := by rw [← size_str, HEL.out, List.length_take]; omega
              have HT : Hid (Top ls d.data.toList (d.extract 0 i).data.toList true) := by rw [HEL.out]; exact hide (top_take HS.out HG.out HC.out)
              clear h4 hg
              obtain ⟨u, HUu⟩ : ∃ u : ByteArray, Hid ((⟨(Pv d.data.toList (i + 1)).toArray⟩ : ByteArray) = u) := ⟨_, rfl⟩
              rw [HUu.out]
              go_upto_region 16 with (go_at_call 17; refine (W17.out (d.extract 0 i) true).mono ?_; rintro e w' ⟨f3, s3, rfl, h3, rfl⟩; replace h3 := hide h3)
              by_cases hf3 : 0 ≤ f3
              · obtain ⟨x, y, z, p, x1, x2, hvd, cv⟩ := verdict_at f3 s3 (d.extract 0 i) u true w hes
                have HVD := hide hvd
                have CV := hide cv
                clear hvd cv
                go_wp2_with (go_at_call 18; refine CV.out.mono ?_; rintro e w' ⟨rfl, rfl⟩)
                refine bodyPost_ret (v := .tuple #[.int .i64 x, .string y, .bool z, .string p, .int .i64 x1, .int .i64 x2]) (by simp [results, Try.results11, go_sem]) rfl ?_
                exact ⟨rfl, .inr ⟨_, true, f3, s3, hes, HT.out, h3.out, by omega, by rw [← HU.out, HUu.out, HVD.out]⟩⟩
              · have hf3' : decide (0 ≤ f3) = false := decide_eq_false hf3
                have F3 := hide (h3.out.free (by omega))
                have HC2 : Hid (Clear ls d.data.toList i) := by
                  have h := F3.out
                  rw [HEL.out] at h
                  exact hide (HC.out.slash h)
                have HPV : Hid ((⟨(Pv d.data.toList i).toArray⟩ : ByteArray) = d.extract 0 i) := by rw [pv_slash HG.out, HE.out]; exact hide rfl
                clear h3
                go_wp2_with fail
                go_round
                case rel => exact ⟨i, by omega, by rw [HPV.out], by go_num, HC2⟩
                case measure => simp [intOf]
            · rw [decide_eq_false h4] at e4
              have HG : Hid (d.data.toList[i]? ≠ some 47) := by rw [hg]; exact hide (fun h => h4 (by simpa using h))
              have HC2 := hide (HC.out.other HG.out)
              have HPV : Hid (Pv d.data.toList (i + 1) = Pv d.data.toList i) := hide (pv_other (by rw [size_str]; exact hlt) HG.out).symm
              clear h4 hg
              rw [HPV.out]
              go_wp2_with fail
              go_round
              case rel => exact ⟨i, by omega, rfl, by go_num, HC2⟩
              case measure => simp [intOf]
end Go.Proofs.Qxb6616084a
