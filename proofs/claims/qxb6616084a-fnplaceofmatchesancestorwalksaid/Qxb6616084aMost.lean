/-
  'mostSpecific'.
-/
import Derived.Test.Qxb6616084aRead
import Derived.Deep.RegionWith
import Derived.Deep.CutBlock
namespace Go.Proofs.Qxb6616084a
set_option linter.unusedVariables false
open Go.RowKit
def MtP (p : Pat) (d : List UInt8) : Prop := Mt p.base.data.toList d p.tree = true
def SpP (p : Pat) : Int := Sp p.base.data.toList p.tree
theorem undrew {W W' : World} (h : Below W.drew.heap.size W.drew W') : Below W.heap.size W W' := ⟨h.os, h.tape, h.output, h.size, h.block⟩
theorem block_new' {w : World} {o : Obj} {k : Nat} (h : k = w.heap.size) : (w.alloc o).heap[k]? = some o := by rw [h]; exact block_new w o
/-- Two patterns, each in a block of its own. -/
structure Two (N6 N9 : Nat) (p q : Pat) (W : World) : Prop where
  h6 : W.heap[N6]? = some (.cells #[.string p.base, .bool p.tree] 52 (0, 0))
  h9 : W.heap[N9]? = some (.cells #[.string q.base, .bool q.tree] 52 (0, 0))
theorem Two.below {N6 N9 : Nat} {p q : Pat} {W W' : World} (h : Two N6 N9 p q W) (hb : Below W.heap.size W W') : Two N6 N9 p q W' :=
  ⟨by rw [hb.block _ (lt_of_block h.h6)]; exact h.h6, by rw [hb.block _ (lt_of_block h.h9)]; exact h.h9⟩
theorem Two.c60 {N6 N9 : Nat} {p q : Pat} {W : World} (h : Two N6 N9 p q W) : W.cell? ⟨N6, 0, none⟩ = some (.string p.base) := by rw [cell_at h.h6]; rfl
theorem Two.c61 {N6 N9 : Nat} {p q : Pat} {W : World} (h : Two N6 N9 p q W) : W.cell? ⟨N6, 1, none⟩ = some (.bool p.tree) := by rw [cell_at h.h6]; rfl
theorem Two.c90 {N6 N9 : Nat} {p q : Pat} {W : World} (h : Two N6 N9 p q W) : W.cell? ⟨N9, 0, none⟩ = some (.string q.base) := by rw [cell_at h.h9]; rfl
theorem Two.c91 {N6 N9 : Nat} {p q : Pat} {W : World} (h : Two N6 N9 p q W) : W.cell? ⟨N9, 1, none⟩ = some (.bool q.tree) := by rw [cell_at h.h9]; rfl
/-- What the best of the first k patterns is. -/
def BestTo (ps : List Pat) (d : List UInt8) (k : Nat) (q : Pat) (f : Bool) : Prop :=
  OkPat q ∧ (f = false → ∀ j p, j < k → ps[j]? = some p → ¬ MtP p d) ∧ (f = true → q ∈ ps ∧ MtP q d ∧ ∀ j p, j < k → ps[j]? = some p → MtP p d → SpP p ≤ SpP q)
def MostPost (ps : List Pat) (d : List UInt8) (w : World) (e : Ending) (w' : World) : Prop :=
  ∃ (q : Pat) (f : Bool), e = .returned (.tuple #[.agg #[.string q.base, .bool q.tree], .bool f]) ∧ BestTo ps d ps.length q f ∧ Below w.heap.size w w'
theorem BestTo.start (ps : List Pat) (d : List UInt8) : BestTo ps d 0 ⟨⟨#[]⟩, false⟩ false :=
  ⟨by show (0 : Nat) ≤ 1048576; omega, fun _ j p hj => by omega, fun h => by simp at h⟩
theorem BestTo.skip {ps : List Pat} {d : List UInt8} {k : Nat} {q p : Pat} {f : Bool} (h : BestTo ps d k q f) (hp : ps[k]? = some p) (hc : MtP p d → f = true ∧ SpP p ≤ SpP q) : BestTo ps d (k + 1) q f := by
  refine ⟨h.1, fun hf j p' hj hp' => ?_, fun hf => ⟨(h.2.2 hf).1, (h.2.2 hf).2.1, fun j p' hj hp' hm => ?_⟩⟩
  · by_cases e : j < k
    · exact h.2.1 hf j p' e hp'
    · obtain rfl : j = k := by omega
      rw [hp] at hp'; cases hp'
      intro hm
      have := (hc hm).1
      rw [hf] at this
      simp at this
  · by_cases e : j < k
    · exact (h.2.2 hf).2.2 j p' e hp' hm
    · obtain rfl : j = k := by omega
      rw [hp] at hp'; cases hp'
      exact (hc hm).2
theorem BestTo.take {ps : List Pat} {d : List UInt8} {k : Nat} {q p : Pat} {f : Bool} (h : BestTo ps d k q f) (hp : ps[k]? = some p) (ho : OkPat p) (hm : MtP p d) (hc : f = true → SpP q < SpP p) : BestTo ps d (k + 1) p true := by
  refine ⟨ho, fun hf => by simp at hf, fun _ => ⟨List.mem_of_getElem? hp, hm, fun j p' hj hp' hm' => ?_⟩⟩
  by_cases e : j < k
  · cases f with
    | false => exact absurd hm' (h.2.1 rfl j p' e hp')
    | true => exact Int.le_trans ((h.2.2 rfl).2.2 j p' e hp' hm') (Int.le_of_lt (hc rfl))
  · obtain rfl : j = k := by omega
    rw [hp] at hp'; cases hp'
    exact Int.le_refl _
set_option maxHeartbeats 8000000 in
set_option maxRecDepth 100000 in
theorem most_any (nm d : ByteArray) (iso : Bool) (pv : Value) (ps : List Pat) (w : World) (hp : ReadsP w.heap.size pv ps w) (ho : ∀ q ∈ ps, OkPat q) :
    Calls Try.prog 19 #[.agg #[.string nm, pv, .bool false, .slice none 0 0, .slice none 0 0, .bool iso], .string d] w fun e w' => MostPost ps d.data.toList w e w' := by
  obtain ⟨a, n, cap, rfl, hn, hpa⟩ := hp.at'
  have HP := hide hpa
  have HO := hide ho
  clear hpa hp ho
  obtain ⟨w1, HW1⟩ : ∃ w1, Hid ((((w.alloc (.cells #[.string nm, .slice a n cap, .bool false, .slice none 0 0, .slice none 0 0, .bool iso] 46)).alloc (.cells #[.string ⟨#[]⟩, .bool false] 52)).alloc (.cells #[.string ⟨#[]⟩, .bool false] 52)) = w1) := ⟨_, rfl⟩
  have HB1 : Hid (Below w.heap.size w w1) := by rw [← HW1.out]; exact (((Below.refl _ w).alloc (Nat.le_refl _) _).alloc (by simp) _).alloc (by simp; omega) _
  have HT1 : Hid (Two (w.heap.size + 1 + 1) (w.heap.size + 1) ⟨⟨#[]⟩, false⟩ ⟨⟨#[]⟩, false⟩ w1) := by
    rw [← HW1.out]
    constructor
    · exact block_new' (by simp)
    · rw [Below.heap_alloc _ _ _ (by simp)]
      exact block_new' (by simp)
  go_enter Try.func19, Try.ntmps19
  go_wp2_with fail
  rw [HW1.out]
  go_loopw [7, 13] (fun s7 s13 wr => ∃ (j : Nat) (q : Pat) (f : Bool), s7 = .bool f ∧ s13 = .int .i64 j ∧ j ≤ n ∧ Hid (BestTo ps d.data.toList j q f) ∧ Hid (Two (w.heap.size + 1 + 1) (w.heap.size + 1) q ⟨⟨#[]⟩, false⟩ wr) ∧ Hid (Below w.heap.size w wr)) (fun _ s13 _ => n - (intOf s13).toNat)
  case atStart => exact ⟨0, _, false, rfl, rfl, by omega, BestTo.start _ _, HT1, HB1⟩
  case round =>
    obtain ⟨j, ⟨qb, qt⟩, f, rfl, rfl, hj, HQ, HT, HB⟩ := hrel
    by_cases hlt : j < n
    · have hlt' : (j : Int) < (n : Int) := by omega
      obtain ⟨g, o, b, t, rfl, hg, he, c1, c2⟩ := (HP.out.below HB.out).cell j hlt
      have HE := hide he
      have hob : b.size ≤ 1048576 := HO.out _ (List.mem_of_getElem? he)
      have hoq : qb.size ≤ 1048576 := HQ.out.1
      clear he
      obtain ⟨w9, HW9⟩ : ∃ w9, Hid (wr.alloc (.cells #[.string b, .bool t] 52) = w9) := ⟨_, rfl⟩
      have HB9 : Hid (Below wr.heap.size wr w9) := by rw [← HW9.out]; exact (Below.refl _ wr).alloc (Nat.le_refl _) _
      have HT9 : Hid (Two (w.heap.size + 1 + 1) wr.heap.size ⟨qb, qt⟩ ⟨b, t⟩ w9) := by
        rw [← HW9.out]
        exact ⟨by rw [Below.heap_alloc _ _ _ (lt_of_block HT.out.h6)]; exact HT.out.h6, block_new _ _⟩
      go_upto_region 6 with fail
      rw [HW9.out]
      obtain ⟨m, HM⟩ : ∃ m, Hid (Mt b.data.toList d.data.toList t = m) := ⟨_, rfl⟩
      obtain ⟨S, HS⟩ : ∃ S, Hid (Sp b.data.toList t = S) := ⟨_, rfl⟩
      obtain ⟨Z, HZ⟩ : ∃ Z, Hid (Sp qb.data.toList qt = Z) := ⟨_, rfl⟩
      have CM : Hid (∀ W, Calls Try.prog 24 #[.agg #[.string b, .bool t], .string d] W fun e w' => e = .returned (.bool m) ∧ Below W.heap.size W w') := fun W => by rw [← HM.out]; exact match_any b d t W
      have CS : Hid (∀ W, Calls Try.prog 20 #[.agg #[.string b, .bool t]] W fun e w' => e = .returned (.int .i64 S) ∧ Below W.heap.size W w') := fun W => by rw [← HS.out]; exact spec_any b t W hob
      have CZ : Hid (∀ W, Calls Try.prog 20 #[.agg #[.string qb, .bool qt]] W fun e w' => e = .returned (.int .i64 Z) ∧ Below W.heap.size W w') := fun W => by rw [← HZ.out]; exact spec_any qb qt W hoq
      go_cut [30] from 17 to 30 (fun s30 wx => ∃ c : Bool, s30 = .bool c ∧ Hid (c = (m && (!f || decide (Z < S)))) ∧ Hid (Two (w.heap.size + 1 + 1) wr.heap.size ⟨qb, qt⟩ ⟨b, t⟩ wx) ∧ Hid (Below w9.heap.size w9 wx))
      case first =>
        have d1 := HT9.out.c60
        have d2 := HT9.out.c61
        have d3 := HT9.out.c90
        have d4 := HT9.out.c91
        dsimp only at d1 d2 d3 d4
        have HX := HT9
        have HY := hide (Below.refl w9.heap.size w9)
        clear HB9 HT9 HT
        cases m with
        | false =>
          have hu : undef = Value.tuple #[] := rfl
          first
          | go_region_with (first
            | (go_at_call 24; refine (CM.out _).mono ?_; rintro e w2 ⟨rfl, hb2⟩; replace hb2 := hide (undrew hb2)
               replace HY := hide (HY.out.trans hb2.out)
               replace HX := hide (HX.out.below hb2.out)
               have d1 := HX.out.c60; have d2 := HX.out.c61; have d3 := HX.out.c90; have d4 := HX.out.c91
               dsimp only at d1 d2 d3 d4)
            | (go_at_call_of 20 b; refine (CS.out _).mono ?_; rintro e w2 ⟨rfl, hb2⟩; replace hb2 := hide hb2
               replace HY := hide (HY.out.trans (Below.mono hb2.out HY.out.size))
               replace HX := hide (HX.out.below hb2.out)
               have d1 := HX.out.c60; have d2 := HX.out.c61; have d3 := HX.out.c90; have d4 := HX.out.c91
               dsimp only at d1 d2 d3 d4)
            | (go_at_call_of 20 qb; refine (CZ.out _).mono ?_; rintro e w2 ⟨rfl, hb2⟩; replace hb2 := hide hb2
               replace HY := hide (HY.out.trans (Below.mono hb2.out HY.out.size))
               replace HX := hide (HX.out.below hb2.out)
               have d1 := HX.out.c60; have d2 := HX.out.c61; have d3 := HX.out.c90; have d4 := HX.out.c91
               dsimp only at d1 d2 d3 d4))
          | fail
          all_goals (go_wp2_with fail; go_meet; exact ⟨false, rfl, rfl, HX, HY⟩)
        | true =>
          cases f with
          | false =>
            first
            | go_region_with (first
            | (go_at_call 24; refine (CM.out _).mono ?_; rintro e w2 ⟨rfl, hb2⟩; replace hb2 := hide (undrew hb2)
               replace HY := hide (HY.out.trans hb2.out)
               replace HX := hide (HX.out.below hb2.out)
               have d1 := HX.out.c60; have d2 := HX.out.c61; have d3 := HX.out.c90; have d4 := HX.out.c91
               dsimp only at d1 d2 d3 d4)
            | (go_at_call_of 20 b; refine (CS.out _).mono ?_; rintro e w2 ⟨rfl, hb2⟩; replace hb2 := hide hb2
               replace HY := hide (HY.out.trans (Below.mono hb2.out HY.out.size))
               replace HX := hide (HX.out.below hb2.out)
               have d1 := HX.out.c60; have d2 := HX.out.c61; have d3 := HX.out.c90; have d4 := HX.out.c91
               dsimp only at d1 d2 d3 d4)
            | (go_at_call_of 20 qb; refine (CZ.out _).mono ?_; rintro e w2 ⟨rfl, hb2⟩; replace hb2 := hide hb2
               replace HY := hide (HY.out.trans (Below.mono hb2.out HY.out.size))
               replace HX := hide (HX.out.below hb2.out)
               have d1 := HX.out.c60; have d2 := HX.out.c61; have d3 := HX.out.c90; have d4 := HX.out.c91
               dsimp only at d1 d2 d3 d4))
            | fail
            all_goals (go_wp2_with fail; go_meet; exact ⟨true, rfl, rfl, HX, HY⟩)
          | true =>
            by_cases hSZ : Z < S
            · have HD : Hid (true = (true && (!true || decide (Z < S)))) := by rw [decide_eq_true hSZ]; exact hide rfl
              first
              | go_region_with (first
            | (go_at_call 24; refine (CM.out _).mono ?_; rintro e w2 ⟨rfl, hb2⟩; replace hb2 := hide (undrew hb2)
               replace HY := hide (HY.out.trans hb2.out)
               replace HX := hide (HX.out.below hb2.out)
               have d1 := HX.out.c60; have d2 := HX.out.c61; have d3 := HX.out.c90; have d4 := HX.out.c91
               dsimp only at d1 d2 d3 d4)
            | (go_at_call_of 20 b; refine (CS.out _).mono ?_; rintro e w2 ⟨rfl, hb2⟩; replace hb2 := hide hb2
               replace HY := hide (HY.out.trans (Below.mono hb2.out HY.out.size))
               replace HX := hide (HX.out.below hb2.out)
               have d1 := HX.out.c60; have d2 := HX.out.c61; have d3 := HX.out.c90; have d4 := HX.out.c91
               dsimp only at d1 d2 d3 d4)
            | (go_at_call_of 20 qb; refine (CZ.out _).mono ?_; rintro e w2 ⟨rfl, hb2⟩; replace hb2 := hide hb2
               replace HY := hide (HY.out.trans (Below.mono hb2.out HY.out.size))
               replace HX := hide (HX.out.below hb2.out)
               have d1 := HX.out.c60; have d2 := HX.out.c61; have d3 := HX.out.c90; have d4 := HX.out.c91
               dsimp only at d1 d2 d3 d4))
              | fail
              all_goals (go_wp2_with fail; go_meet; exact ⟨true, rfl, HD, HX, HY⟩)
            · have HD : Hid (false = (true && (!true || decide (Z < S)))) := by rw [decide_eq_false hSZ]; exact hide rfl
              have hSZ' : decide (Z < S) = false := decide_eq_false hSZ
              first
              | go_region_with (first
            | (go_at_call 24; refine (CM.out _).mono ?_; rintro e w2 ⟨rfl, hb2⟩; replace hb2 := hide (undrew hb2)
               replace HY := hide (HY.out.trans hb2.out)
               replace HX := hide (HX.out.below hb2.out)
               have d1 := HX.out.c60; have d2 := HX.out.c61; have d3 := HX.out.c90; have d4 := HX.out.c91
               dsimp only at d1 d2 d3 d4)
            | (go_at_call_of 20 b; refine (CS.out _).mono ?_; rintro e w2 ⟨rfl, hb2⟩; replace hb2 := hide hb2
               replace HY := hide (HY.out.trans (Below.mono hb2.out HY.out.size))
               replace HX := hide (HX.out.below hb2.out)
               have d1 := HX.out.c60; have d2 := HX.out.c61; have d3 := HX.out.c90; have d4 := HX.out.c91
               dsimp only at d1 d2 d3 d4)
            | (go_at_call_of 20 qb; refine (CZ.out _).mono ?_; rintro e w2 ⟨rfl, hb2⟩; replace hb2 := hide hb2
               replace HY := hide (HY.out.trans (Below.mono hb2.out HY.out.size))
               replace HX := hide (HX.out.below hb2.out)
               have d1 := HX.out.c60; have d2 := HX.out.c61; have d3 := HX.out.c90; have d4 := HX.out.c91
               dsimp only at d1 d2 d3 d4))
              | fail
              all_goals (go_wp2_with fail; go_meet; exact ⟨false, rfl, HD, HX, HY⟩)
      case rest =>
      obtain ⟨c, rfl, HC, HX, HY⟩ := hcut
      have HBx := hide (HB.out.trans (Below.mono (HB9.out.trans (Below.mono HY.out HB9.out.size)) HB.out.size))
      have HTx : Hid (Two (w.heap.size + 1 + 1) (w.heap.size + 1) ⟨qb, qt⟩ ⟨⟨#[]⟩, false⟩ wc) := hide ⟨HX.out.h6, ((HT.out.below HB9.out).below HY.out).h9⟩
      cases c with
      | false =>
        have HQ2 : Hid (BestTo ps d.data.toList (j + 1) ⟨qb, qt⟩ f) := by
          refine HQ.out.skip HE.out (fun hm => ?_)
          have h := HC.out
          have hm' : m = true := by rw [← HM.out]; exact hm
          subst hm'
          cases f with
          | false => simp at h
          | true =>
            refine ⟨rfl, ?_⟩
            simp at h
            show Sp b.data.toList t ≤ Sp qb.data.toList qt
            rw [HS.out, HZ.out]
            exact h
        go_wp2_with fail
        go_roundw
        case rel => exact ⟨j + 1, ⟨qb, qt⟩, f, rfl, by go_num, by omega, HQ2, HTx, HBx⟩
        case measure => simp [intOf]; omega
      | true =>
        have HQ2 : Hid (BestTo ps d.data.toList (j + 1) ⟨b, t⟩ true) := by
          have h := HC.out
          cases m with
          | false => simp at h
          | true =>
            refine HQ.out.take HE.out hob HM.out (fun hf => ?_)
            subst hf
            simp at h
            show Sp qb.data.toList qt < Sp b.data.toList t
            rw [HS.out, HZ.out]
            exact h
        have d1 := HX.out.c60
        have d2 := HX.out.c61
        have d3 := HX.out.c90
        have d4 := HX.out.c91
        have f1 := frozen_at HX.out.h6 0
        have f2 := frozen_at HX.out.h6 1
        dsimp only at d1 d2 d3 d4
        have FIN : Hid (Two (w.heap.size + 1 + 1) (w.heap.size + 1) ⟨b, t⟩ ⟨⟨#[]⟩, false⟩ ((wc.setCell ⟨w.heap.size + 1 + 1, 0, none⟩ (.string b)).setCell ⟨w.heap.size + 1 + 1, 1, none⟩ (.bool t)) ∧ Below w.heap.size w ((wc.setCell ⟨w.heap.size + 1 + 1, 0, none⟩ (.string b)).setCell ⟨w.heap.size + 1 + 1, 1, none⟩ (.bool t))) := by
          refine hide ⟨⟨heap_set (heap_set HTx.out.h6 0 _) 1 _, ?_⟩, ?_⟩
          · rw [Below.heap_setCell _ _ _ _ (by show w.heap.size + 1 ≠ w.heap.size + 1 + 1; omega), Below.heap_setCell _ _ _ _ (by show w.heap.size + 1 ≠ w.heap.size + 1 + 1; omega)]
            exact HTx.out.h9
          · exact (HBx.out.setCell (p := ⟨w.heap.size + 1 + 1, 0, none⟩) (by show w.heap.size ≤ w.heap.size + 1 + 1; omega) _).setCell (p := ⟨w.heap.size + 1 + 1, 1, none⟩) (by show w.heap.size ≤ w.heap.size + 1 + 1; omega) _
        go_wp2_with fail
        go_roundw
        case rel => exact ⟨j + 1, ⟨b, t⟩, true, rfl, by go_num, by omega, HQ2, FIN.out.1, FIN.out.2⟩
        case measure => simp [intOf]; omega
    · obtain rfl : j = n := by omega
      have d1 := HT.out.c60
      have d2 := HT.out.c61
      have d3 := HT.out.c90
      have d4 := HT.out.c91
      have f1 := frozen_at HT.out.h9 0
      have f2 := frozen_at HT.out.h9 1
      dsimp only at d1 d2 d3 d4
      have FIN : Hid (Below w.heap.size w ((wr.setCell ⟨w.heap.size + 1, 0, none⟩ (.string qb)).setCell ⟨w.heap.size + 1, 1, none⟩ (.bool qt))) :=
        hide ((HB.out.setCell (p := ⟨w.heap.size + 1, 0, none⟩) (by show w.heap.size ≤ w.heap.size + 1; omega) _).setCell (p := ⟨w.heap.size + 1, 1, none⟩) (by show w.heap.size ≤ w.heap.size + 1; omega) _)
      have HQ2 : Hid (BestTo ps d.data.toList ps.length ⟨qb, qt⟩ f) := by rw [HP.out.len]; exact HQ
      have k0 : (wr.setCell ⟨w.heap.size + 1, 0, none⟩ (.string qb)).cell? ⟨w.heap.size + 1, 0, none⟩ = some (.string qb) := by rw [cell_at (heap_set HT.out.h9 0 _)]; rfl
      have k1 : ((wr.setCell ⟨w.heap.size + 1, 0, none⟩ (.string qb)).setCell ⟨w.heap.size + 1, 1, none⟩ (.bool qt)).cell? ⟨w.heap.size + 1, 1, none⟩ = some (.bool qt) := by rw [cell_at (heap_set (heap_set HT.out.h9 0 _) 1 _)]; rfl
      go_wp2_with fail
      refine bodyPost_ret (v := .tuple #[.agg #[.string qb, .bool qt], .bool f]) (by simp [results, Try.results19, go_sem, k0, k1]) rfl ?_
      exact ⟨⟨qb, qt⟩, f, rfl, HQ2.out, FIN.out⟩
end Go.Proofs.Qxb6616084a
