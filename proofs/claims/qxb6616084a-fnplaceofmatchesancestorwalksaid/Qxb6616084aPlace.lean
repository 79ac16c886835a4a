/-
  'PlaceOf'.
-/
import Derived.Test.Qxb6616084aPlace0
import Derived.Test.Qxb6616084aSpell
namespace Go.Proofs.Qxb6616084a
set_option linter.unusedVariables false
open Go.RowKit
/-- The place's block and the best pattern's. -/
structure PW (N : Nat) (q : Pat) (W : World) : Prop where
  h4 : W.heap[N]? = some (.cells #[.int .i64 0, .string ⟨#[]⟩] 32 (0, 0))
  h8 : W.heap[N + 1]? = some (.cells #[.string q.base, .bool q.tree] 52 (0, 0))
theorem PW.below {N : Nat} {q : Pat} {W W' : World} (h : PW N q W) (hb : Below W.heap.size W W') : PW N q W' :=
  ⟨by rw [hb.block _ (lt_of_block h.h4)]; exact h.h4, by rw [hb.block _ (lt_of_block h.h8)]; exact h.h8⟩
/-- Besides them the block of the two names. -/
structure TW (N A : Nat) (q : Pat) (s t : ByteArray) (W : World) : Prop where
  hp : PW N q W
  hn : W.heap[A]? = some (.cells #[.string s, .string t] 33 (0, 0))
theorem TW.below {N A : Nat} {q : Pat} {s t : ByteArray} {W W' : World} (h : TW N A q s t W) (hb : Below W.heap.size W W') : TW N A q s t W' :=
  ⟨h.hp.below hb, by rw [hb.block _ (lt_of_block h.hn)]; exact h.hn⟩
theorem TW.cells {N A : Nat} {q : Pat} {s t : ByteArray} {W : World} (h : TW N A q s t W) :
    W.cell? ⟨N, 0, none⟩ = some (.int .i64 0) ∧ W.cell? ⟨N, 1, none⟩ = some (.string ⟨#[]⟩) ∧ W.cell? ⟨N + 1, 0, none⟩ = some (.string q.base) ∧ W.cell? ⟨N + 1, 1, none⟩ = some (.bool q.tree) ∧
    W.cell? ⟨A, 0, none⟩ = some (.string s) ∧ W.cell? ⟨A, 1, none⟩ = some (.string t) ∧ W.frozen? ⟨N, 0, none⟩ = false ∧ W.frozen? ⟨N, 1, none⟩ = false :=
  ⟨by rw [cell_at h.hp.h4]; rfl, by rw [cell_at h.hp.h4]; rfl, by rw [cell_at h.hp.h8]; rfl, by rw [cell_at h.hp.h8]; rfl, by rw [cell_at h.hn]; rfl, by rw [cell_at h.hn]; rfl, frozen_at h.hp.h4 0, frozen_at h.hp.h4 1⟩
theorem TW.boxed {N A : Nat} {q : Pat} {s t : ByteArray} {W : World} (h : TW N A q s t W) (o : Obj) :
    (W.alloc o).cell? ⟨N, 0, none⟩ = some (.int .i64 0) ∧ (W.alloc o).cell? ⟨N, 1, none⟩ = some (.string ⟨#[]⟩) ∧ (W.alloc o).frozen? ⟨N, 0, none⟩ = false ∧ (W.alloc o).frozen? ⟨N, 1, none⟩ = false := by
  have h' := (h.hp.below ((Below.refl _ W).alloc (Nat.le_refl _) o)).h4
  exact ⟨by rw [cell_at h']; rfl, by rw [cell_at h']; rfl, frozen_at h' 0, frozen_at h' 1⟩
theorem TW.late {N A : Nat} {q : Pat} {s t : ByteArray} {W : World} (h : TW N A q s t W) (hne : N ≠ A) :
    ((W.setCell ⟨N, 0, none⟩ (.int .i64 (-1))).setCell ⟨N, 1, none⟩ (.string ⟨#[]⟩)).cell? ⟨A, 0, none⟩ = some (.string s) ∧ ((W.setCell ⟨N, 0, none⟩ (.int .i64 (-1))).setCell ⟨N, 1, none⟩ (.string ⟨#[]⟩)).cell? ⟨A, 1, none⟩ = some (.string t) := by
  have h' : ((W.setCell ⟨N, 0, none⟩ (.int .i64 (-1))).setCell ⟨N, 1, none⟩ (.string ⟨#[]⟩)).heap[A]? = some (.cells #[.string s, .string t] 33 (0, 0)) := by
    rw [Below.heap_setCell _ _ _ _ (fun e => hne e.symm), Below.heap_setCell _ _ _ _ (fun e => hne e.symm)]
    exact h.hn
  exact ⟨by rw [cell_at h']; rfl, by rw [cell_at h']; rfl⟩
theorem drewB (B : Nat) (w : World) : Below B w w.drew := ⟨rfl, rfl, rfl, Nat.le_refl _, fun _ _ => rfl⟩
theorem TW.finA {A : Nat} {q : Pat} {s t : ByteArray} {w W : World} (h : TW w.heap.size A q s t W) (hb : Below w.heap.size w W) (o : Obj) :
    (((W.alloc o).setCell ⟨w.heap.size, 0, none⟩ (.int .i64 (-1))).setCell ⟨w.heap.size, 1, none⟩ (.string ⟨#[]⟩)).cell? ⟨w.heap.size, 0, none⟩ = some (.int .i64 (-1)) ∧
    (((W.alloc o).setCell ⟨w.heap.size, 0, none⟩ (.int .i64 (-1))).setCell ⟨w.heap.size, 1, none⟩ (.string ⟨#[]⟩)).cell? ⟨w.heap.size, 1, none⟩ = some (.string ⟨#[]⟩) ∧
    (((W.alloc o).setCell ⟨w.heap.size, 0, none⟩ (.int .i64 (-1))).setCell ⟨w.heap.size, 1, none⟩ (.string ⟨#[]⟩)).heap[W.heap.size]? = some o ∧
    Below w.heap.size w (((W.alloc o).setCell ⟨w.heap.size, 0, none⟩ (.int .i64 (-1))).setCell ⟨w.heap.size, 1, none⟩ (.string ⟨#[]⟩)) := by
  have hl := lt_of_block h.hp.h4
  have h' := (h.hp.below ((Below.refl _ W).alloc (Nat.le_refl _) o)).h4
  refine ⟨by rw [cell_at (heap_set (heap_set h' 0 _) 1 _)]; rfl, by rw [cell_at (heap_set (heap_set h' 0 _) 1 _)]; rfl, ?_, ((hb.alloc (Nat.le_of_lt hl) o).setCell (p := ⟨w.heap.size, 0, none⟩) (Nat.le_refl _) _).setCell (p := ⟨w.heap.size, 1, none⟩) (Nat.le_refl _) _⟩
  rw [Below.heap_setCell _ _ _ _ (by show W.heap.size ≠ w.heap.size; omega), Below.heap_setCell _ _ _ _ (by show W.heap.size ≠ w.heap.size; omega)]
  exact block_new W o
theorem TW.finB {A : Nat} {q : Pat} {s t : ByteArray} {w W : World} (h : TW w.heap.size A q s t W) (hb : Below w.heap.size w W) (o : Obj) :
    (((W.setCell ⟨w.heap.size, 0, none⟩ (.int .i64 (-1))).setCell ⟨w.heap.size, 1, none⟩ (.string ⟨#[]⟩)).alloc o).cell? ⟨w.heap.size, 0, none⟩ = some (.int .i64 (-1)) ∧
    (((W.setCell ⟨w.heap.size, 0, none⟩ (.int .i64 (-1))).setCell ⟨w.heap.size, 1, none⟩ (.string ⟨#[]⟩)).alloc o).cell? ⟨w.heap.size, 1, none⟩ = some (.string ⟨#[]⟩) ∧
    (((W.setCell ⟨w.heap.size, 0, none⟩ (.int .i64 (-1))).setCell ⟨w.heap.size, 1, none⟩ (.string ⟨#[]⟩)).alloc o).heap[W.heap.size]? = some o ∧
    Below w.heap.size w (((W.setCell ⟨w.heap.size, 0, none⟩ (.int .i64 (-1))).setCell ⟨w.heap.size, 1, none⟩ (.string ⟨#[]⟩)).alloc o) := by
  have hl := lt_of_block h.hp.h4
  have h' := heap_set (heap_set h.hp.h4 0 (.int .i64 (-1))) 1 (.string ⟨#[]⟩)
  have hs : ((W.setCell ⟨w.heap.size, 0, none⟩ (.int .i64 (-1))).setCell ⟨w.heap.size, 1, none⟩ (.string ⟨#[]⟩)).heap.size = W.heap.size := by simp [World.setCell]
  have hb' := (hb.setCell (p := ⟨w.heap.size, 0, none⟩) (Nat.le_refl _) (.int .i64 (-1))).setCell (p := ⟨w.heap.size, 1, none⟩) (Nat.le_refl _) (.string ⟨#[]⟩)
  generalize (W.setCell ⟨w.heap.size, 0, none⟩ (.int .i64 (-1))).setCell ⟨w.heap.size, 1, none⟩ (.string ⟨#[]⟩) = V at *
  have hV : (V.alloc o).heap[w.heap.size]? = V.heap[w.heap.size]? := Below.heap_alloc _ _ _ (by rw [hs]; exact hl)
  rw [← hV] at h'
  exact ⟨by rw [cell_at h']; rfl, by rw [cell_at h']; rfl, by rw [← hs]; exact block_new V o, hb'.alloc (by rw [hs]; exact Nat.le_of_lt hl) o⟩
def PlacePost (ls : List Layer) (d : ByteArray) (w : World) (e : Ending) (w' : World) : Prop :=
  Below w.heap.size w w' ∧
  ((NoneTo ls d.data.toList ls.length ∧ e = .returned (.tuple #[.agg #[.int .i64 (-1), .string ⟨#[]⟩], .nilIface])) ∨
   (∃ (f : Nat) (q : Pat), FoundAt ls d.data.toList ls.length f q ∧ LoneTo ls d.data.toList ls.length f q ∧ e = .returned (.tuple #[.agg #[.int .i64 f, .string ⟨(Un q.base.data.toList d.data.toList).toArray⟩], .nilIface])) ∨
   (∃ (f t : Nat) (q : Pat) (lf lt : Layer) (B : Nat), FoundAt ls d.data.toList ls.length f q ∧ TiedAt ls d.data.toList ls.length f t q ∧ ls[f]? = some lf ∧ ls[t]? = some lt ∧
     e = .returned (.tuple #[.agg #[.int .i64 (-1), .string ⟨#[]⟩], .iface 58 (.pointer (some ⟨B, 0, none⟩))]) ∧
     w'.heap[B]? = some (.cells #[.string d, .string (spellB q.base q.tree), .string lf.name, .string lt.name] 61 (0, 0))))
set_option maxHeartbeats 8000000 in
set_option maxRecDepth 100000 in
theorem place_any (gr : Nat) (v : Value) (ls : List Layer) (d : ByteArray) (w : World) (hgr : gr < w.heap.size) (hc : w.cell? ⟨gr, 0, none⟩ = some v) (hv : ReadsR w.heap.size v ls w) (hs : ls.length ≤ 1048576) (ho : ∀ l ∈ ls, OkLayer l) (hd : d.size ≤ 1048576) :
    Calls Try.prog 16 #[.pointer (some ⟨gr, 0, none⟩), .string d] w fun e w' => PlacePost ls d w e w' := by
  obtain ⟨a, rfl, hr⟩ := id hv
  obtain ⟨n, hn⟩ : ∃ n, ls.length = n := ⟨_, rfl⟩
  have HV := hide hv
  have HN := hide hn
  have HR := hide hr
  have HO := hide ho
  have HD := hide hd
  rw [hn] at hs hc
  clear hr hv ho hn hd
  obtain ⟨w1, HW1⟩ : ∃ w1, Hid ((w.alloc (.cells #[.int .i64 0, .string ⟨#[]⟩] 32)).alloc (.cells #[.string ⟨#[]⟩, .bool false] 52) = w1) := ⟨_, rfl⟩
  have HB1 : Hid (Below w.heap.size w w1) := by rw [← HW1.out]; exact ((Below.refl _ w).alloc (Nat.le_refl _) _).alloc (by simp) _
  have HT1 : Hid (PW w.heap.size ⟨⟨#[]⟩, false⟩ w1) := by
    rw [← HW1.out]
    constructor
    · rw [Below.heap_alloc _ _ _ (by simp)]
      exact block_new' (by simp)
    · exact block_new' (by simp)
  have hgr' := hide hgr
  have hc1 : w1.cell? ⟨gr, 0, none⟩ = some (.slice a n n) := by rw [HB1.out.cell (p := ⟨gr, 0, none⟩) hgr]; exact hc
  go_enter Try.func16, Try.ntmps16
  go_upto_region 3 with fail
  rw [HW1.out]
  go_wp2_with fail
  go_loopw [6, 7, 19] (fun s6 s7 s19 wr => ∃ (i : Nat) (f t : Int) (q : Pat), s6 = .int .i64 f ∧ s7 = .int .i64 t ∧ s19 = .int .i64 i ∧ i ≤ n ∧ Hid (PlaceTo ls d.data.toList i f q t) ∧ Hid (PW w.heap.size q wr) ∧ Hid (Below w.heap.size w wr)) (fun _ _ s19 _ => n - (intOf s19).toNat)
  case atStart => exact ⟨0, _, _, _, rfl, rfl, rfl, by omega, PlaceTo.start _ _, HT1, HB1⟩
  case round =>
    obtain ⟨i, f, t, ⟨qb, qt⟩, rfl, rfl, rfl, hi, HQ, HT, HB⟩ := hrel
    by_cases hlt : i < n
    · have hlt' : (i : Int) < (n : Int) := by omega
      obtain ⟨l, HL⟩ : ∃ l, Hid (ls[i]? = some l) := ⟨_, List.getElem?_eq_getElem (by rw [HN.out]; exact hlt)⟩
      obtain ⟨g, o, pv, rfl, hg, c0, c1, c2, c3, c4, c5, hp⟩ := HR.out i l HL.out
      obtain ⟨pa, pn, pc, rfl, _, _⟩ := hp.at'
      have q0 := HB.out.cell (p := ⟨g, o + i * 6, none⟩) hg
      have q1 := HB.out.cell (p := ⟨g, o + i * 6 + 1, none⟩) hg
      have q2 := HB.out.cell (p := ⟨g, o + i * 6 + 2, none⟩) hg
      have q3 := HB.out.cell (p := ⟨g, o + i * 6 + 3, none⟩) hg
      have q4 := HB.out.cell (p := ⟨g, o + i * 6 + 4, none⟩) hg
      have q5 := HB.out.cell (p := ⟨g, o + i * 6 + 5, none⟩) hg
      rw [c0] at q0
      rw [c1] at q1
      rw [c2] at q2
      rw [c3] at q3
      rw [c4] at q4
      rw [c5] at q5
      obtain ⟨nm, ps, iso⟩ := l
      dsimp only at q0 q5
      have HP := hide hp
      clear hp c0 c1 c2 c3 c4 c5
      obtain ⟨wa, HWA⟩ : ∃ wa, Hid (wr.alloc (.cells #[.string nm, .slice pa pn pc, .bool false, .slice none 0 0, .slice none 0 0, .bool iso] 46) = wa) := ⟨_, rfl⟩
      have HBA : Hid (Below wr.heap.size wr wa) := by rw [← HWA.out]; exact (Below.refl _ wr).alloc (Nat.le_refl _) _
      have HBL : Hid (wa.heap[wr.heap.size]? = some (.cells #[.string nm, .slice pa pn pc, .bool false, .slice none 0 0, .slice none 0 0, .bool iso] 46 (0, 0))) := by rw [← HWA.out]; exact block_new _ _
      have a0 : wa.cell? ⟨wr.heap.size, 0, none⟩ = some (.string nm) := by rw [cell_at HBL.out]; rfl
      have a1 : wa.cell? ⟨wr.heap.size, 1, none⟩ = some (.slice pa pn pc) := by rw [cell_at HBL.out]; rfl
      have a2 : wa.cell? ⟨wr.heap.size, 2, none⟩ = some (.bool false) := by rw [cell_at HBL.out]; rfl
      have a3 : wa.cell? ⟨wr.heap.size, 3, none⟩ = some (.slice none 0 0) := by rw [cell_at HBL.out]; rfl
      have a4 : wa.cell? ⟨wr.heap.size, 4, none⟩ = some (.slice none 0 0) := by rw [cell_at HBL.out]; rfl
      have a5 : wa.cell? ⟨wr.heap.size, 5, none⟩ = some (.bool iso) := by rw [cell_at HBL.out]; rfl
      have HBWA := hide (HB.out.trans (Below.mono HBA.out HB.out.size))
      have CM : Hid (Calls Try.prog 19 #[.agg #[.string nm, .slice pa pn pc, .bool false, .slice none 0 0, .slice none 0 0, .bool iso], .string d] wa fun e w' => MostPost ps d.data.toList wa e w') :=
        hide (most_any nm d iso _ ps wa ((HP.out.below HBWA.out).up HBWA.out.size) (HO.out _ (List.mem_of_getElem? HL.out)).2.2)
      go_upto_region 6 with fail
      rw [HWA.out]
      go_upto_if 31 with (
        go_at_call 19
        refine CM.out.mono ?_
        rintro e w2 ⟨⟨pb, pt⟩, ok, rfl, hbest, hb2⟩
        replace hbest := hide hbest
        replace hb2 := hide hb2)
      obtain ⟨wb, HWb⟩ : ∃ wb, Hid (w2.alloc (.cells #[.string pb, .bool pt] 52) = wb) := ⟨_, rfl⟩
      have HB2 := hide (Below.mono (HBA.out.trans (Below.mono hb2.out HBA.out.size)) (Nat.le_refl wr.heap.size))
      have HBb : Hid (Below wr.heap.size wr wb) := by rw [← HWb.out]; exact HB2.out.alloc HB2.out.size _
      have HTb : Hid (Two (w.heap.size + 1) w2.heap.size ⟨qb, qt⟩ ⟨pb, pt⟩ wb) := by
        rw [← HWb.out]
        have h8 := (HT.out.below HB2.out).h8
        exact ⟨by rw [Below.heap_alloc _ _ _ (lt_of_block h8)]; exact h8, block_new _ _⟩
      rw [HWb.out]
      have HTp := hide (HT.out.below HBb.out)
      have HBwb := hide (HB.out.trans (Below.mono HBb.out HB.out.size))
      cases ok with
      | false =>
        have HQ2 := hide (HQ.out.skip HL.out hbest.out)
        go_wp2_with fail
        go_roundw
        case rel => exact ⟨i + 1, f, t, ⟨qb, qt⟩, rfl, rfl, by go_num, by omega, HQ2, HTp, HBwb⟩
        case measure => simp [intOf]; omega
      | true =>
        have hop : pb.size ≤ 1048576 := hbest.out.1
        have hoq : qb.size ≤ 1048576 := HQ.out.1
        obtain ⟨S, HS⟩ : ∃ S, Hid (Sp pb.data.toList pt = S) := ⟨_, rfl⟩
        obtain ⟨Z, HZ⟩ : ∃ Z, Hid (Sp qb.data.toList qt = Z) := ⟨_, rfl⟩
        have CS : Hid (∀ W, Calls Try.prog 20 #[.agg #[.string pb, .bool pt]] W fun e w' => e = .returned (.int .i64 S) ∧ Below W.heap.size W w') := fun W => by rw [← HS.out]; exact spec_any pb pt W hop
        have CZ : Hid (∀ W, Calls Try.prog 20 #[.agg #[.string qb, .bool qt]] W fun e w' => e = .returned (.int .i64 Z) ∧ Below W.heap.size W w') := fun W => by rw [← HZ.out]; exact spec_any qb qt W hoq
        go_upto_region 8 with fail
        go_cut [32] from 33 to 41 (fun s32 wx => ∃ c : Bool, s32 = .bool c ∧ Hid (c = (decide (f < 0) || decide (Z < S))) ∧ Hid (Two (w.heap.size + 1) w2.heap.size ⟨qb, qt⟩ ⟨pb, pt⟩ wx) ∧ Hid (Below wb.heap.size wb wx))
        case first =>
          have d1 := HTb.out.c60
          have d2 := HTb.out.c61
          have d3 := HTb.out.c90
          have d4 := HTb.out.c91
          dsimp only at d1 d2 d3 d4
          have HX := HTb
          have HY := hide (Below.refl wb.heap.size wb)
          clear HBb HTb HT HTp
          by_cases hf0 : f < 0
          · have HD0 : Hid (true = (decide (f < 0) || decide (Z < S))) := by rw [decide_eq_true hf0]; exact hide rfl
            have hu : undef = Value.tuple #[] := rfl
            first
            | go_region_with (first
            | (go_at_call_of 20 pb; refine (CS.out _).mono ?_; rintro e w3 ⟨rfl, hb3⟩; first | replace hb3 := hide (undrew hb3) | replace hb3 := hide hb3
               replace HY := hide (HY.out.trans (Below.mono hb3.out HY.out.size))
               replace HX := hide (HX.out.below hb3.out)
               have d1 := HX.out.c60; have d2 := HX.out.c61; have d3 := HX.out.c90; have d4 := HX.out.c91
               dsimp only at d1 d2 d3 d4)
            | (go_at_call_of 20 qb; refine (CZ.out _).mono ?_; rintro e w3 ⟨rfl, hb3⟩; first | replace hb3 := hide (undrew hb3) | replace hb3 := hide hb3
               replace HY := hide (HY.out.trans (Below.mono hb3.out HY.out.size))
               replace HX := hide (HX.out.below hb3.out)
               have d1 := HX.out.c60; have d2 := HX.out.c61; have d3 := HX.out.c90; have d4 := HX.out.c91
               dsimp only at d1 d2 d3 d4))
            | fail
            all_goals (go_wp2_with fail; go_meet; exact ⟨true, rfl, HD0, hide (HX.out.below (drewB _ _)), hide (HY.out.trans (drewB _ _))⟩)
          · have hf1 : decide (f < 0) = false := decide_eq_false hf0
            by_cases hSZ : Z < S
            · have HD0 : Hid (true = (decide (f < 0) || decide (Z < S))) := by rw [decide_eq_true hSZ, hf1]; exact hide rfl
              first
              | go_region_with (first
            | (go_at_call_of 20 pb; refine (CS.out _).mono ?_; rintro e w3 ⟨rfl, hb3⟩; first | replace hb3 := hide (undrew hb3) | replace hb3 := hide hb3
               replace HY := hide (HY.out.trans (Below.mono hb3.out HY.out.size))
               replace HX := hide (HX.out.below hb3.out)
               have d1 := HX.out.c60; have d2 := HX.out.c61; have d3 := HX.out.c90; have d4 := HX.out.c91
               dsimp only at d1 d2 d3 d4)
            | (go_at_call_of 20 qb; refine (CZ.out _).mono ?_; rintro e w3 ⟨rfl, hb3⟩; first | replace hb3 := hide (undrew hb3) | replace hb3 := hide hb3
               replace HY := hide (HY.out.trans (Below.mono hb3.out HY.out.size))
               replace HX := hide (HX.out.below hb3.out)
               have d1 := HX.out.c60; have d2 := HX.out.c61; have d3 := HX.out.c90; have d4 := HX.out.c91
               dsimp only at d1 d2 d3 d4))
              | fail
              all_goals (go_wp2_with fail; go_meet; exact ⟨true, rfl, HD0, HX, HY⟩)
            · have hSZ' : decide (Z < S) = false := decide_eq_false hSZ
              have HD0 : Hid (false = (decide (f < 0) || decide (Z < S))) := by rw [hSZ', hf1]; exact hide rfl
              first
              | go_region_with (first
            | (go_at_call_of 20 pb; refine (CS.out _).mono ?_; rintro e w3 ⟨rfl, hb3⟩; first | replace hb3 := hide (undrew hb3) | replace hb3 := hide hb3
               replace HY := hide (HY.out.trans (Below.mono hb3.out HY.out.size))
               replace HX := hide (HX.out.below hb3.out)
               have d1 := HX.out.c60; have d2 := HX.out.c61; have d3 := HX.out.c90; have d4 := HX.out.c91
               dsimp only at d1 d2 d3 d4)
            | (go_at_call_of 20 qb; refine (CZ.out _).mono ?_; rintro e w3 ⟨rfl, hb3⟩; first | replace hb3 := hide (undrew hb3) | replace hb3 := hide hb3
               replace HY := hide (HY.out.trans (Below.mono hb3.out HY.out.size))
               replace HX := hide (HX.out.below hb3.out)
               have d1 := HX.out.c60; have d2 := HX.out.c61; have d3 := HX.out.c90; have d4 := HX.out.c91
               dsimp only at d1 d2 d3 d4))
              | fail
              all_goals (go_wp2_with fail; go_meet; exact ⟨false, rfl, HD0, HX, HY⟩)
        case rest =>
        obtain ⟨c, rfl, HC, HX, HY⟩ := hcut
        have HTx := hide (HTp.out.below HY.out)
        have HBx := hide (HBwb.out.trans (Below.mono HY.out HBwb.out.size))
        cases c with
        | true =>
          have HQ2 : Hid (PlaceTo ls d.data.toList (i + 1) i ⟨pb, pt⟩ (-1)) := by
            refine hide (HQ.out.take HL.out hbest.out ?_)
            have h := HC.out
            by_cases hf : f < 0
            · exact .inl hf
            · right
              rw [decide_eq_false hf] at h
              simp at h
              show Sp qb.data.toList qt < Sp pb.data.toList pt
              rw [HS.out, HZ.out]
              exact h
          have d3 := HX.out.c90
          have d4 := HX.out.c91
          have d1 := HX.out.c60
          have d2 := HX.out.c61
          have f1 := frozen_at HX.out.h6 0
          have f2 := frozen_at HX.out.h6 1
          dsimp only at d1 d2 d3 d4
          have FIN : Hid (PW w.heap.size ⟨pb, pt⟩ ((wc.setCell ⟨w.heap.size + 1, 0, none⟩ (.string pb)).setCell ⟨w.heap.size + 1, 1, none⟩ (.bool pt)).drew ∧ Below w.heap.size w ((wc.setCell ⟨w.heap.size + 1, 0, none⟩ (.string pb)).setCell ⟨w.heap.size + 1, 1, none⟩ (.bool pt)).drew) := by
            refine hide ⟨⟨?_, ?_⟩, ?_⟩
            · show ((wc.setCell ⟨w.heap.size + 1, 0, none⟩ (.string pb)).setCell ⟨w.heap.size + 1, 1, none⟩ (.bool pt)).heap[w.heap.size]? = _
              rw [Below.heap_setCell _ _ _ _ (by show w.heap.size ≠ w.heap.size + 1; omega), Below.heap_setCell _ _ _ _ (by show w.heap.size ≠ w.heap.size + 1; omega)]
              exact HTx.out.h4
            · exact heap_set (heap_set HTx.out.h8 0 _) 1 _
            · exact ((HBx.out.setCell (p := ⟨w.heap.size + 1, 0, none⟩) (by show w.heap.size ≤ w.heap.size + 1; omega) _).setCell (p := ⟨w.heap.size + 1, 1, none⟩) (by show w.heap.size ≤ w.heap.size + 1; omega) _).trans (drewB _ _)
          clear HTx HBx HX HY HTp HBwb HTb HBb
          go_wp2_with fail
          go_region
          go_wp2_with fail
          go_roundw
          case rel => exact ⟨i + 1, _, _, ⟨pb, pt⟩, rfl, rfl, by go_num, by omega, HQ2, FIN.out.1, FIN.out.2⟩
          case measure => simp [intOf]; omega
        | false =>
          have HNF : Hid (¬ f < 0 ∧ ¬ Z < S) := by have h := HC.out; simp at h; exact hide ⟨by omega, by omega⟩
          go_upto_region 10 with fail
          go_cut [44] from 45 to 53 (fun s44 wx => ∃ c : Bool, s44 = .bool c ∧ Hid (c = (decide (S = Z) && decide (t < 0))) ∧ Hid (Below wc.heap.size wc wx))
          case first =>
            have d1 := HX.out.c60
            have d2 := HX.out.c61
            have d3 := HX.out.c90
            have d4 := HX.out.c91
            dsimp only at d1 d2 d3 d4
            replace HY := hide (Below.refl wc.heap.size wc)
            clear HTx HBx HTp HBwb HTb HBb
            by_cases hSZ : S = Z
            · have hSZ1 : (S == Z) = true := by simp [hSZ]
              have hSZ2 : decide (S = Z) = true := decide_eq_true hSZ
              clear hSZ
              by_cases ht0 : t < 0
              · have HD0 : Hid (true = (decide (S = Z) && decide (t < 0))) := by rw [hSZ2, decide_eq_true ht0]; exact hide rfl
                first
                | go_region_with (first
            | (go_at_call_of 20 pb; refine (CS.out _).mono ?_; rintro e w3 ⟨rfl, hb3⟩; first | replace hb3 := hide (undrew hb3) | replace hb3 := hide hb3
               replace HY := hide (HY.out.trans (Below.mono hb3.out HY.out.size))
               replace HX := hide (HX.out.below hb3.out)
               have d1 := HX.out.c60; have d2 := HX.out.c61; have d3 := HX.out.c90; have d4 := HX.out.c91
               dsimp only at d1 d2 d3 d4)
            | (go_at_call_of 20 qb; refine (CZ.out _).mono ?_; rintro e w3 ⟨rfl, hb3⟩; first | replace hb3 := hide (undrew hb3) | replace hb3 := hide hb3
               replace HY := hide (HY.out.trans (Below.mono hb3.out HY.out.size))
               replace HX := hide (HX.out.below hb3.out)
               have d1 := HX.out.c60; have d2 := HX.out.c61; have d3 := HX.out.c90; have d4 := HX.out.c91
               dsimp only at d1 d2 d3 d4))
                | fail
                all_goals (go_wp2_with fail; go_meet; exact ⟨true, rfl, HD0, HY⟩)
              · have ht1 : decide (t < 0) = false := decide_eq_false ht0
                have HD0 : Hid (false = (decide (S = Z) && decide (t < 0))) := by rw [hSZ2, ht1]; exact hide rfl
                first
                | go_region_with (first
            | (go_at_call_of 20 pb; refine (CS.out _).mono ?_; rintro e w3 ⟨rfl, hb3⟩; first | replace hb3 := hide (undrew hb3) | replace hb3 := hide hb3
               replace HY := hide (HY.out.trans (Below.mono hb3.out HY.out.size))
               replace HX := hide (HX.out.below hb3.out)
               have d1 := HX.out.c60; have d2 := HX.out.c61; have d3 := HX.out.c90; have d4 := HX.out.c91
               dsimp only at d1 d2 d3 d4)
            | (go_at_call_of 20 qb; refine (CZ.out _).mono ?_; rintro e w3 ⟨rfl, hb3⟩; first | replace hb3 := hide (undrew hb3) | replace hb3 := hide hb3
               replace HY := hide (HY.out.trans (Below.mono hb3.out HY.out.size))
               replace HX := hide (HX.out.below hb3.out)
               have d1 := HX.out.c60; have d2 := HX.out.c61; have d3 := HX.out.c90; have d4 := HX.out.c91
               dsimp only at d1 d2 d3 d4))
                | fail
                all_goals (go_wp2_with fail; go_meet; exact ⟨false, rfl, HD0, HY⟩)
            · have hSZ1 : (S == Z) = false := by simp [hSZ]
              have hSZ2 : decide (S = Z) = false := decide_eq_false hSZ
              clear hSZ
              have HD0 : Hid (false = (decide (S = Z) && decide (t < 0))) := by rw [hSZ2]; exact hide rfl
              have hu : undef = Value.tuple #[] := rfl
              first
              | go_region_with (first
            | (go_at_call_of 20 pb; refine (CS.out _).mono ?_; rintro e w3 ⟨rfl, hb3⟩; first | replace hb3 := hide (undrew hb3) | replace hb3 := hide hb3
               replace HY := hide (HY.out.trans (Below.mono hb3.out HY.out.size))
               replace HX := hide (HX.out.below hb3.out)
               have d1 := HX.out.c60; have d2 := HX.out.c61; have d3 := HX.out.c90; have d4 := HX.out.c91
               dsimp only at d1 d2 d3 d4)
            | (go_at_call_of 20 qb; refine (CZ.out _).mono ?_; rintro e w3 ⟨rfl, hb3⟩; first | replace hb3 := hide (undrew hb3) | replace hb3 := hide hb3
               replace HY := hide (HY.out.trans (Below.mono hb3.out HY.out.size))
               replace HX := hide (HX.out.below hb3.out)
               have d1 := HX.out.c60; have d2 := HX.out.c61; have d3 := HX.out.c90; have d4 := HX.out.c91
               dsimp only at d1 d2 d3 d4))
              | fail
              all_goals (go_wp2_with fail; go_meet; exact ⟨false, rfl, HD0, HY⟩)
          case rest =>
          obtain ⟨wk, hwk⟩ : ∃ wk, wk = wc := ⟨wc, rfl⟩
          subst hwk
          obtain ⟨c, rfl, HC2, HY2⟩ := hcut
          have HTk := hide (HTx.out.below HY2.out)
          have HBk := hide (HBx.out.trans (Below.mono HY2.out HBx.out.size))
          clear HTx HBx HX HY HTp HBwb HTb HBb
          cases c with
          | true =>
            have HQ2 : Hid (PlaceTo ls d.data.toList (i + 1) f ⟨qb, qt⟩ i) := by
              have h := HC2.out
              simp at h
              refine hide (HQ.out.tie HL.out hbest.out HNF.out.1 ?_ h.2)
              show Sp pb.data.toList pt = Sp qb.data.toList qt
              rw [HS.out, HZ.out]
              exact h.1
            go_wp2_with fail
            go_roundw
            case rel => exact ⟨i + 1, _, _, ⟨qb, qt⟩, rfl, rfl, by go_num, by omega, HQ2, HTk, HBk⟩
            case measure => simp [intOf]; omega
          | false =>
            have HQ2 : Hid (PlaceTo ls d.data.toList (i + 1) f ⟨qb, qt⟩ t) := by
              have h := HC2.out
              simp at h
              refine hide (HQ.out.keep HL.out hbest.out HNF.out.1 ?_ ?_)
              · show ¬ Sp qb.data.toList qt < Sp pb.data.toList pt
                rw [HS.out, HZ.out]
                exact HNF.out.2
              · intro h1
                have h1' : Sp pb.data.toList pt = Sp qb.data.toList qt := h1
                rw [HS.out, HZ.out] at h1'
                have := h h1'
                omega
            go_wp2_with fail
            go_roundw
            case rel => exact ⟨i + 1, _, _, ⟨qb, qt⟩, rfl, rfl, by go_num, by omega, HQ2, HTk, HBk⟩
            case measure => simp [intOf]; omega
    · obtain rfl : i = n := by omega
      have hcr : wr.cell? ⟨gr, 0, none⟩ = some (.slice a i i) := by rw [HB.out.cell (p := ⟨gr, 0, none⟩) hgr]; exact hc
      have c40 : wr.cell? ⟨w.heap.size, 0, none⟩ = some (.int .i64 0) := by rw [cell_at HT.out.h4]; rfl
      have c41 : wr.cell? ⟨w.heap.size, 1, none⟩ = some (.string ⟨#[]⟩) := by rw [cell_at HT.out.h4]; rfl
      have c80 : wr.cell? ⟨w.heap.size + 1, 0, none⟩ = some (.string qb) := by rw [cell_at HT.out.h8]; rfl
      have c81 : wr.cell? ⟨w.heap.size + 1, 1, none⟩ = some (.bool qt) := by rw [cell_at HT.out.h8]; rfl
      have f40 := frozen_at HT.out.h4 0
      have f41 := frozen_at HT.out.h4 1
      have hoq : qb.size ≤ 1048576 := HQ.out.1
      rcases HQ.out.2 with ⟨rfl, rfl, hnone⟩ | ⟨fn, rfl, hfound, ⟨rfl, hlone⟩ | ⟨tn, rfl, htied⟩⟩
      · have HNO : Hid (NoneTo ls d.data.toList ls.length) := by rw [HN.out]; exact hide hnone
        clear hnone
        go_wp2_with fail
        have k0 : (wr.setCell ⟨w.heap.size, 0, none⟩ (.int .i64 (-1))).cell? ⟨w.heap.size, 0, none⟩ = some (.int .i64 (-1)) := by rw [cell_at (heap_set HT.out.h4 0 _)]; rfl
        have k1 : ((wr.setCell ⟨w.heap.size, 0, none⟩ (.int .i64 (-1))).setCell ⟨w.heap.size, 1, none⟩ (.string ⟨#[]⟩)).cell? ⟨w.heap.size, 1, none⟩ = some (.string ⟨#[]⟩) := by rw [cell_at (heap_set (heap_set HT.out.h4 0 _) 1 _)]; rfl
        refine bodyPost_ret (v := .tuple #[.agg #[.int .i64 (-1), .string ⟨#[]⟩], .nilIface]) (by simp [results, Try.results16, go_sem, k0, k1]) rfl ?_
        exact ⟨(HB.out.setCell (p := ⟨w.heap.size, 0, none⟩) (Nat.le_refl _) _).setCell (p := ⟨w.heap.size, 1, none⟩) (Nat.le_refl _) _, .inl ⟨HNO.out, rfl⟩⟩
      · have HFO : Hid (FoundAt ls d.data.toList ls.length fn ⟨qb, qt⟩) := by rw [HN.out]; exact hide hfound
        have HLO : Hid (LoneTo ls d.data.toList ls.length fn ⟨qb, qt⟩) := by rw [HN.out]; exact hide hlone
        have HMT : Hid (Mt qb.data.toList d.data.toList qt = true) := hide hfound.2.2.1
        clear hfound hlone
        obtain ⟨u, HU⟩ : ∃ u : ByteArray, Hid ((⟨(Un qb.data.toList d.data.toList).toArray⟩ : ByteArray) = u) := ⟨_, rfl⟩
        have CU : Hid (Calls Try.prog 22 #[.agg #[.string qb, .bool qt], .string d] wr fun e w' => e = .returned (.string u) ∧ Below wr.heap.size wr w') := by rw [← HU.out]; exact hide (unit_any qb d qt wr hoq HD.out HMT.out)
        have hfn : ¬ (fn : Int) < 0 := by omega
        go_wp2_with (
          go_at_call 22
          refine CU.out.mono ?_
          rintro e w2 ⟨rfl, hb2⟩
          have HP2 := hide (HT.out.below hb2)
          have HB2 := hide (HB.out.trans (Below.mono hb2 HB.out.size))
          clear hb2
          have m40 : w2.cell? ⟨w.heap.size, 0, none⟩ = some (.int .i64 0) := by rw [cell_at HP2.out.h4]; rfl
          have m41 : w2.cell? ⟨w.heap.size, 1, none⟩ = some (.string ⟨#[]⟩) := by rw [cell_at HP2.out.h4]; rfl
          have n40 := frozen_at HP2.out.h4 0
          have n41 := frozen_at HP2.out.h4 1)
        have k0 : (w2.setCell ⟨w.heap.size, 0, none⟩ (.int .i64 fn)).cell? ⟨w.heap.size, 0, none⟩ = some (.int .i64 fn) := by rw [cell_at (heap_set HP2.out.h4 0 _)]; rfl
        have k1 : ((w2.setCell ⟨w.heap.size, 0, none⟩ (.int .i64 fn)).setCell ⟨w.heap.size, 1, none⟩ (.string u)).cell? ⟨w.heap.size, 1, none⟩ = some (.string u) := by rw [cell_at (heap_set (heap_set HP2.out.h4 0 _) 1 _)]; rfl
        refine bodyPost_ret (v := .tuple #[.agg #[.int .i64 fn, .string u], .nilIface]) (by simp [results, Try.results16, go_sem, k0, k1]) rfl ?_
        exact ⟨(HB2.out.setCell (p := ⟨w.heap.size, 0, none⟩) (Nat.le_refl _) _).setCell (p := ⟨w.heap.size, 1, none⟩) (Nat.le_refl _) _, .inr (.inl ⟨fn, ⟨qb, qt⟩, HFO.out, HLO.out, by rw [← HU.out]⟩)⟩
      · have HFO : Hid (FoundAt ls d.data.toList ls.length fn ⟨qb, qt⟩) := by rw [HN.out]; exact hide hfound
        have HTI : Hid (TiedAt ls d.data.toList ls.length fn tn ⟨qb, qt⟩) := by rw [HN.out]; exact hide htied
        have hfi : fn < i := hfound.1
        have hti : tn < i := htied.2.1
        obtain ⟨lf, HLF, _⟩ := hfound.2.1
        obtain ⟨lt, _, HLT, _⟩ := htied.2.2.1
        clear hfound htied
        obtain ⟨g, o, _, rfl, hg, cf0, _⟩ := HR.out fn lf HLF
        obtain ⟨g2, o2, _, hgo, _, ct0, _⟩ := HR.out tn lt HLT
        cases hgo
        have hfi' : (fn : Int) < (i : Int) := by omega
        have hti' : (tn : Int) < (i : Int) := by omega
        have cf : wr.cell? ⟨g, o + fn * 6, none⟩ = some (.string lf.name) := by rw [HB.out.cell (p := ⟨g, o + fn * 6, none⟩) hg]; exact cf0
        have ct : wr.cell? ⟨g, o + tn * 6, none⟩ = some (.string lt.name) := by rw [HB.out.cell (p := ⟨g, o + tn * 6, none⟩) hg]; exact ct0
        clear cf0 ct0
        obtain ⟨fname, hfn⟩ : ∃ s, lf.name = s := ⟨_, rfl⟩
        obtain ⟨tname, htn⟩ : ∃ s, lt.name = s := ⟨_, rfl⟩
        rw [hfn] at cf
        rw [htn] at ct
        have HFN := hide hfn
        have HTN := hide htn
        have HLF' := hide HLF
        have HLT' := hide HLT
        clear HLF HLT hfn htn
        have CS := hide (fun W => string_any qb qt W hoq)
        obtain ⟨sp, HSP⟩ : ∃ sp, Hid (spellB qb qt = sp) := ⟨_, rfl⟩
        rw [HSP.out] at CS
        have hgw : g < wr.heap.size := Nat.lt_of_lt_of_le hg HB.out.size
        have hrw : gr < wr.heap.size := Nat.lt_of_lt_of_le hgr HB.out.size
        have BA := (Below.refl wr.heap.size wr).alloc (Nat.le_refl _) (.cells #[.string ⟨#[]⟩, .string ⟨#[]⟩] 33)
        have A1 : (wr.alloc (.cells #[.string ⟨#[]⟩, .string ⟨#[]⟩] 33)).cell? ⟨gr, 0, none⟩ = some (.slice (some ⟨g, o, none⟩) i i) := by rw [BA.cell (p := ⟨gr, 0, none⟩) hrw]; exact hcr
        have A2 : (wr.alloc (.cells #[.string ⟨#[]⟩, .string ⟨#[]⟩] 33)).cell? ⟨g, o + fn * 6, none⟩ = some (.string fname) := by rw [BA.cell (p := ⟨g, o + fn * 6, none⟩) hgw]; exact cf
        have A3 : (wr.alloc (.cells #[.string ⟨#[]⟩, .string ⟨#[]⟩] 33)).cell? ⟨g, o + tn * 6, none⟩ = some (.string tname) := by rw [BA.cell (p := ⟨g, o + tn * 6, none⟩) hgw]; exact ct
        clear BA
        obtain ⟨wq, HWQ⟩ : ∃ wq, Hid ((wr.alloc (.cells #[.string fname, .string tname] 33)).drew = wq) := ⟨_, rfl⟩
        have HBQ : Hid (Below wr.heap.size wr wq) := by rw [← HWQ.out]; exact hide (((Below.refl wr.heap.size wr).alloc (Nat.le_refl _) _).trans (drewB _ _))
        have HX : Hid (TW w.heap.size wr.heap.size ⟨qb, qt⟩ fname tname wq) := by
          refine hide ⟨HT.out.below HBQ.out, ?_⟩
          rw [← HWQ.out]
          exact block_new wr _
        have HY := hide (HB.out.trans (Below.mono HBQ.out HB.out.size))
        go_wp2_with fail
        go_region
        rw [HWQ.out]
        clear A1 A2 A3 c40 c41 c80 c81 f40 f41 HBQ hcr cf ct
        obtain ⟨r0, r1, r2, r3, r4, r5, r6, r7⟩ := HX.out.cells
        dsimp only at r2 r3
        have hNA : w.heap.size ≠ wr.heap.size := Nat.ne_of_lt (lt_of_block HT.out.h4)
        go_wp2_with fail
        go_region_with (
            go_at_call 21
            refine (CS.out _).mono ?_
            rintro e w3 ⟨rfl, hb3⟩
            first | replace hb3 := hide (undrew hb3) | replace hb3 := hide hb3
            replace HY := hide (HY.out.trans (Below.mono hb3.out HY.out.size))
            replace HX := hide (HX.out.below hb3.out)
            obtain ⟨r0, r1, r2, r3, r4, r5, r6, r7⟩ := HX.out.cells
            dsimp only at r2 r3
            obtain ⟨s0, s1, s2, s3⟩ := HX.out.boxed (.cells #[.string d, .string sp, .string fname, .string tname] 61)
            obtain ⟨s4, s5⟩ := HX.out.late hNA)
        all_goals go_wp2_with fail
        all_goals first
          | (obtain ⟨k0, k1, k2, k3⟩ := TW.finA HX.out HY.out (.cells #[.string d, .string sp, .string fname, .string tname] 61)
             refine bodyPost_ret (v := .tuple #[.agg #[.int .i64 (-1), .string ⟨#[]⟩], .iface 58 (.pointer (some ⟨w3.heap.size, 0, none⟩))]) (by simp [results, Try.results16, go_sem, k0, k1]) rfl ?_
             exact ⟨k3, .inr (.inr ⟨fn, tn, ⟨qb, qt⟩, lf, lt, w3.heap.size, HFO.out, HTI.out, HLF'.out, HLT'.out, rfl, by rw [HFN.out, HTN.out]; show _ = some (Obj.cells #[.string d, .string (spellB qb qt), .string fname, .string tname] 61 (0, 0)); rw [HSP.out]; exact k2⟩)⟩)
          | (obtain ⟨k0, k1, k2, k3⟩ := TW.finB HX.out HY.out (.cells #[.string d, .string sp, .string fname, .string tname] 61)
             refine bodyPost_ret (v := .tuple #[.agg #[.int .i64 (-1), .string ⟨#[]⟩], .iface 58 (.pointer (some ⟨w3.heap.size, 0, none⟩))]) (by simp [results, Try.results16, go_sem, k0, k1]) rfl ?_
             exact ⟨k3, .inr (.inr ⟨fn, tn, ⟨qb, qt⟩, lf, lt, w3.heap.size, HFO.out, HTI.out, HLF'.out, HLT'.out, rfl, by rw [HFN.out, HTN.out]; show _ = some (Obj.cells #[.string d, .string (spellB qb qt), .string fname, .string tname] 61 (0, 0)); rw [HSP.out]; exact k2⟩)⟩)
end Go.Proofs.Qxb6616084a
