/-
  (*Secrets).redaction, of a text that is no nil.
-/
import Derived.Test.Qxb6616271aRange
import Derived.RegionIn
import Derived.BigRegionIn
namespace Go.Proofs.Qxb6616271a
attribute [local go_sem] Oper.semAt_some
set_option linter.unusedVariables false
open Go.RowKit
theorem own_lt {w : World} {base n cap size : Nat} {e : TypeId} {g : Nat} {xs : List Value} (h : w.ownsRow base e size (.slice (some ⟨g, 0, none⟩) n cap) n xs) : g < w.heap.size := by
  rcases h.2 with ⟨h', _⟩ | ⟨g', _, _, h', _, hg, _⟩
  · simp at h'
  · simp only [Value.slice.injEq, Option.some.injEq, Addr.mk.injEq] at h'
    obtain ⟨⟨rfl, _, _⟩, _, _⟩ := h'
    exact lt_of_block hg
/-- The first k marks lie. -/
def Marked (l : Pairs) (k : Nat) (xs : List Value) : Prop := xs.length = l.length ∧ ∀ i, i < k → ∃ ad cap, xs[i]? = some (.slice ad (markB (l.getD i P0).2).size cap)
theorem marks_none {l : Pairs} : Marked l 0 (madeCells #[.slice none 0 0] l.length).toList := ⟨by simp [size_madeCells], fun i h => absurd h (Nat.not_lt_zero _)⟩
theorem Marked.set {l : Pairs} {k : Nat} {xs : List Value} (h : Marked l k xs) (hk : k < l.length) (ad : Option Addr) (cap : Nat) : Marked l (k + 1) (xs.set k (.slice ad (markB (l.getD k P0).2).size cap)) := by
  refine ⟨by rw [List.length_set]; exact h.1, fun i hi => ?_⟩
  rw [List.getElem?_set]
  by_cases e : k = i
  · subst e
    rw [if_pos rfl, if_pos (by rw [h.1]; exact hk)]
    exact ⟨ad, cap, rfl⟩
  · rw [if_neg e]
    exact h.2 i (by omega)
/-- No panic. -/
def calm (Q : Exit → Act → World → Prop) : Exit → Act → World → Prop
  | .panic _, _, _ => False
  | .outgrown, _, _ => False
  | e, a, w => Q e a w
theorem calm_le {Q : Exit → Act → World → Prop} {e : Exit} {a : Act} {w : World} (h : calm Q e a w) : Q e a w := by
  cases e <;> first | exact h | exact h.elim
theorem ml_at (l : Pairs) (i : Nat) (h : i < l.length) : (l.map fun p => (markB p.2).size).getD i 0 = (markB (l.getD i P0).2).size := by
  simp [List.getD, List.getElem?_eq_getElem h]
theorem pinv_of_sm {w wr : World} {g M n tn gt : Nat} {ln : Int} {c : List Int} {xs : List Value} {l : Pairs} (h : Sm w wr g M n tn (.slice (some ⟨gt, 0, none⟩) n n) ln c xs) (hc : c.length = n) (htn : tn = l.length) (hm : Marked l tn xs) :
    PInv (w.heap.size + 1) wr.heap.size gt g M n tn c (l.map fun p => (markB p.2).size) (wr.alloc (.cells #[.pointer (some ⟨w.heap.size + 1, 0, none⟩)] 36 (0, 0))) := by
  have hs := h.size
  have h' := h.alloc (.cells #[.pointer (some ⟨w.heap.size + 1, 0, none⟩)] 36 (0, 0))
  obtain ⟨cs, f, h1, h2⟩ := own_cells h'.cov
  obtain ⟨cs', f', h3, h4⟩ := own_cells h'.mks
  refine ⟨block_new wr _, by omega, by simp [World.cell?, h'.red], by simp [World.cell?, h'.red], by simp [World.cell?, h'.red], ?_, by have := h.hM; omega, ⟨cs, f, h1, fun j hj => ?_⟩, ⟨cs', f', h3, fun i hi => ?_⟩⟩
  · intro e
    exact ownBlock_tag h'.cov h'.red (by decide) (by rw [e]; rfl)
  · rw [h2 j hj]
    simp [covV, List.getD, List.getElem?_eq_getElem (show j < c.length by omega)]
  · rw [h4 i hi, ml_at l i (by omega)]
    exact hm.2 i hi
set_option maxRecDepth 100000 in
set_option maxHeartbeats 2000000 in
theorem redaction_some (S bS g cap gt : Nat) (l : Pairs) (X : List UInt8) (cut : Bool) (m : Int) (w : World) (hl0 : 0 < l.length)
    (hS : w.heap[S]? = some (.cells #[.map none, .slice (some ⟨g, 0, none⟩) l.length cap] 47 (0, 0))) (hO : w.ownsRow bS 49 2 (.slice (some ⟨g, 0, none⟩) l.length cap) l.length (flatS l))
    (hX : ReadsB w (.slice (some ⟨gt, 0, none⟩) X.length X.length) X) (hn : X.length ≤ 1048576) (hl : l.length ≤ 65536) (hp : ∀ i, i < l.length → 0 < (l.getD i P0).1.size ∧ (l.getD i P0).1.size ≤ 1048576 ∧ (l.getD i P0).2.size ≤ 1048576)
    (hm : w.cell? ⟨0, 0, none⟩ = some (.int .i64 m)) :
    Calls Try.prog 19 #[.pointer (some ⟨S, 0, none⟩), .slice (some ⟨gt, 0, none⟩) X.length X.length, .bool cut, .bool false] w fun e w' => ∃ R, e = .returned (.pointer (some ⟨R, 0, none⟩)) ∧ RedDone w' R X (redM cut X 0 (l.map fun p => p.1.data.toList) none) (l.map fun p => (markB p.2).size) ∧ Below w.heap.size w w' := by
  have hnil := fun (a : Option Addr) (n c : Nat) (w : World) => Lib.run_eql_slice_nil (P := Try.prog) w 39 21 a n c 0 0 Try.underlying39
  have hconv := fun (s : ByteArray) (w : World) => run_bytes_of_string (P := Try.prog) w 9 30 5 s Try.underlying9 Try.underlying30 Try.underlying5
  have HO := hide hO
  have HP := hide hp
  have HS := hide hS
  have HX := hide hX
  have s1 : w.cell? ⟨S, 1, none⟩ = some (.slice (some ⟨g, 0, none⟩) l.length cap) := by simp [World.cell?, hS]
  have hSl : S < w.heap.size := World.block_lt_of_cell? _ _ s1
  have s2 : ∀ o o' o'', (((w.alloc o).alloc o').alloc o'').cell? ⟨S, 1, none⟩ = some (.slice (some ⟨g, 0, none⟩) l.length cap) := fun o o' o'' => by
    rw [World.cell?_alloc_past _ _ _ (show S < _ by simp only [World.size_alloc]; omega), World.cell?_alloc_past _ _ _ (show S < _ by simp only [World.size_alloc]; omega), World.cell?_alloc_past _ _ _ hSl]; exact s1
  clear hO hp hS hX
  refine callsIn_wide.1 (callsIn_of_wp_marks (n := 3) Try.func19 rfl trivial ?_)
  refine wpIn_wide.2 (wp_mono (Q := calm (bodyPostM _ _ _ _ _)) ?_ (fun _ _ _ h => calm_le h))
  simp only [Try.ntmps19, List.size_toArray, List.length_cons, List.length_nil, Nat.reduceAdd, Nat.reduceSub, Array.replicate_succ, Array.replicate_zero, List.push_toArray, List.append_toArray, List.nil_append, List.cons_append]
  have hl1 : ((l.length : Int) == 0) = false := beq_eq_false_iff_ne.2 (by omega)
  have HI := hide (St.start w (.slice (some ⟨gt, 0, none⟩) X.length X.length) (.int .i64 X.length))
  go_wp2
  go_loopw [42] (fun i wr => ∃ k : Nat, k ≤ l.length ∧ i = .int .i64 k ∧ Hid (St w wr (.slice (some ⟨gt, 0, none⟩) X.length X.length) (.int .i64 X.length) (redM cut X 0 ((l.take k).map fun p => p.1.data.toList) none))) (fun i _ => l.length - (intOf i).toNat)
  case atStart => exact ⟨0, by omega, rfl, HI.out⟩
  case round =>
    clear HI
    obtain ⟨k, hk, rfl, ST⟩ := hrel
    by_cases hlt : k < l.length
    · have hg : g < w.heap.size := World.block_lt_of_cell? w ⟨g, 0, none⟩ (HO.out.cellAt 0 (by omega) |>.trans (flatS_at l 0 (by omega)).1)
      have c1 : wr.cell? ⟨g, k * 2, none⟩ = some (.string (l.getD k P0).1) := by
        rw [ST.out.below.cell (p := ⟨g, k * 2, none⟩) hg, HO.out.cellAt (k * 2) (by omega)]
        exact (flatS_at l k hlt).1
      have c2 : wr.cell? ⟨g, k * 2 + 1, none⟩ = some (.string (l.getD k P0).2) := by
        rw [ST.out.below.cell (p := ⟨g, k * 2 + 1, none⟩) hg, HO.out.cellAt (k * 2 + 1) (by omega)]
        exact (flatS_at l k hlt).2
      have PK := hide (HP.out k hlt)
      have TK := hide (take_snoc l k hlt)
      have LK := hide (show ((l.take k).map fun p => p.1.data.toList).length = k by rw [List.length_map, List.length_take]; omega)
      generalize l.getD k P0 = pk at c1 c2 PK TK
      obtain ⟨tx, nm⟩ := pk
      have RS := hide (redM_snoc cut X ((l.take k).map fun p => p.1.data.toList) 0 tx.data.toList none)
      have SZ := hide (Sized.red (cut := cut) (X := X) ((l.take k).map fun p => p.1.data.toList) 0 (C := none) (fun c h => by cases h))
      rw [LK.out, Nat.zero_add] at RS
      generalize redM cut X 0 ((l.take k).map fun p => p.1.data.toList) none = C0 at ST RS SZ
      obtain ⟨pk1, pk2, pk3⟩ : 0 < tx.size ∧ tx.size ≤ 1048576 ∧ nm.size ≤ 1048576 := PK.out
      clear PK
      obtain ⟨cc, hcc⟩ : ∃ cc, grownCap (wr.alloc (.cells #[.string tx, .string nm] 49 (0, 0))) tx.size 0 5 = cc := ⟨_, rfl⟩
      have hcc1 : tx.size ≤ cc := by rw [← hcc]; exact grownCap_ge _ _ _ _
      have hcc2 : cc ≤ maxLen := by rw [← hcc]; exact grownCap_le_maxLen _ _ _ _ (by unfold maxLen; omega)
      have ST1 : Hid (∀ o, St w ((wr.alloc (.cells #[.string tx, .string nm] 49 (0, 0))).alloc o).drew (.slice (some ⟨gt, 0, none⟩) X.length X.length) (.int .i64 X.length) C0) := fun o => ((ST.out.alloc _).alloc o).drew
      have LI := hide (conv_lies (wr.alloc (.cells #[.string tx, .string nm] 49 (0, 0))) tx cc ((bytesRow tx cc).size, (bytesRow tx cc).size + 1))
      have LB := hide (conv_tag (wr.alloc (.cells #[.string tx, .string nm] 49 (0, 0))) tx cc ((bytesRow tx cc).size, (bytesRow tx cc).size + 1))
      simp only [World.size_alloc] at LI LB
      have hB : w.heap.size + 1 < wr.heap.size + 1 := by have := ST.out.size; omega
      have hlen : tx.data.toList.length = tx.size := len_eq tx
      go_wp2
      generalize hB5 : wr.heap.size + 1 = B5 at LI LB hB ⊢
      clear hB5
      go_loopw [14] (fun i wr2 => ∃ (j : Nat) (C : Option (List Int)), j ≤ X.length ∧ i = .int .i64 j ∧ Hid (St w wr2 (.slice (some ⟨gt, 0, none⟩) X.length X.length) (.int .i64 X.length) C) ∧ Hid (Lies wr2 B5 0 tx.data.toList) ∧ Hid (∃ cs f, wr2.heap[B5]? = some (.cells cs 5 f)) ∧ Hid (Sized X.length C) ∧ Hid (occM X tx.data.toList ((k : Int) + 1) j C = occM X tx.data.toList ((k : Int) + 1) 0 C0)) (fun i _ => X.length - (intOf i).toNat)
      case atStart => exact ⟨0, C0, by omega, rfl, ST1.out _, LI.out, LB.out, SZ.out, rfl⟩
      case round =>
        clear ST1 LI LB ST c1 c2 hcc
        obtain ⟨j, C, hj, rfl, ST2, LI, LB, SZ2, EQ⟩ := hrel
        have t1 : wr.cell? ⟨w.heap.size, 0, none⟩ = some (.slice (some ⟨gt, 0, none⟩) X.length X.length) := cell_of_one ST2.out.tb
        have m1 : wr.cell? ⟨0, 0, none⟩ = some (.int .i64 m) := by rw [ST2.out.below.cell (p := ⟨0, 0, none⟩) (by show 0 < _; omega)]; exact hm
        have BR := hide (fun q => broken_any _ X tx.data.toList B5 0 cc (wr.drewN q) (HX.out.below (ST2.out.drewN q).below) LI.out (by omega) (by omega) (by omega) (by omega) hcc2)
        rw [hlen] at BR
        have BL := hide (brk_le X tx.data.toList)
        have SB := hide (show stepM true X k tx.data.toList C0 = coverM X.length (occM X tx.data.toList ((k : Int) + 1) 0 C0) 0 (brk X tx.data.toList) ((k : Int) + 1) from rfl)
        have SF := hide (show stepM false X k tx.data.toList C0 = occM X tx.data.toList ((k : Int) + 1) 0 C0 from rfl)
        generalize brk X tx.data.toList = B at BR BL SB
        have CV := fun (f t : Nat) (q : Nat) (h1 : f ≤ t) (h2 : t ≤ X.length) => hide (cover_step k f t q X tx B5 w wr _ C ST2.out SZ2.out LI.out LB.out hB h1 h2 (by omega) (by omega))
        obtain ⟨ad, had⟩ : ∃ ad, (if X.length = j then some (⟨gt, 0, none⟩ : Addr) else some ⟨gt, j, none⟩) = ad := ⟨_, rfl⟩
        have SR := hide (search gt j B5 cc X tx m w wr HX.out ST2.out.below LI.out hj (by omega) (by omega) (by omega) m1)
        rw [had] at SR
        have hjI : ¬ ((j : Int) < 0 ∨ (X.length : Int) < (j : Int)) := by omega
        have CV0 := fun q => CV 0 B q (Nat.zero_le _) BL.out
        have CV1 := fun (i q : Nat) h1 h2 => CV (j + i) (j + i + tx.size) q h1 h2
        simp only [Int.natCast_add] at CV1
        clear CV
        go_wp2_with (first | (go_at_call 21; refine SR.out.mono ?_; rintro e w' ⟨r, rfl, ⟨q, rfl⟩, (⟨hr, O⟩ | ⟨i, rfl, hr, O⟩)⟩) | (go_at_call 23; refine (BR.out _).mono ?_; rintro e w' ⟨rfl, rfl⟩) | (go_at_call 20; refine (CV1 i q (by omega) hr).out.mono ?_; rintro e w' ⟨rfl, S1, S2, S3, S4⟩) | (go_at_call 20; refine (CV0 q).out.mono ?_; rintro e w' ⟨rfl, S1, S2, S3, S4⟩))
        · have hct : cut = true := by assumption
          subst hct
          go_roundw
          case rel =>
            refine ⟨k + 1, by omega, by go_num, ?_⟩
            rw [TK.out, RS.out, SB.out, ← EQ.out, O.out]
            exact S1.out
          case measure => simp [intOf]; omega
        · have hcf : cut = false := by first | assumption | (simpa using ‹¬ cut = true›)
          refine ⟨⟨k + 1, by omega, by go_num, ?_⟩, by simp [intOf]; omega⟩
          rw [TK.out, RS.out, hcf, SF.out, ← EQ.out, O.out]
          exact ST2.out.drewN q
        · exact ⟨⟨j + i + tx.size, _, hr, by go_num, S1, S3, S4, S2, (O.out _ _).symm.trans EQ.out⟩, by simp [intOf]; omega⟩
    · have ek : l.take k = l := List.take_of_length_le (by omega)
      rw [ek] at ST
      have SZ := hide (Sized.red (cut := cut) (X := X) (l.map fun p => p.1.data.toList) 0 (C := none) (fun c h => by cases h))
      obtain ⟨C, HC⟩ : ∃ C, Hid (redM cut X 0 (l.map fun p => p.1.data.toList) none = C) := ⟨_, rfl⟩
      rw [HC.out] at ST SZ
      obtain ⟨vc, r1, r2⟩ := ST.out.red
      have c1 : wr.cell? ⟨w.heap.size + 1, 1, none⟩ = some vc := by simp [World.cell?, r1]
      have c2 : wr.cell? ⟨w.heap.size + 1 + 1, 0, none⟩ = some (.pointer (some ⟨w.heap.size + 1, 0, none⟩)) := cell_of_one ST.out.rb
      cases C with
      | none =>
        obtain rfl : vc = .slice none 0 0 := r2
        have DN : Hid (RedDone wr (w.heap.size + 1) X none (l.map fun p => (markB p.2).size)) := ⟨_, _, _, r1, rfl⟩
        have BL := hide ST.out.below
        clear r1
        go_wp2
        exact ⟨_, results_tmp rfl _ _ _, _, rfl, by rw [HC.out]; exact DN.out, BL.out⟩
      | some c =>
        obtain ⟨g2, rfl, ho⟩ := r2
        have hcl : c.length = X.length := SZ.out c rfl
        rw [hcl] at r1 ho c1
        have MM := hide (marks_made (tn := l.length) ST.out r1 ho (by unfold maxLen; omega))
        have hRlt := lt_of_block r1
        have hSz := ST.out.size
        rw [World.setCell_alloc_past _ _ _ _ hRlt] at MM
        have hg2 : g2 < wr.heap.size := own_lt ho
        have hmk := fun w => run_make_row' (P := Try.prog) 40 30 (.slice none 0 0) 24 Try.underlying40 Try.info30 rfl .i64 .i64 l.length (by omega) (by omega) w
        have f2 : wr.frozen? ⟨w.heap.size + 1, 2, none⟩ = false := by simp [World.frozen?, r1]
        have c3 : wr.cell? ⟨w.heap.size + 1, 2, none⟩ = some (.slice none 0 0) := by simp [World.cell?, r1]
        have c4 : wr.cell? ⟨S, 1, none⟩ = some (.slice (some ⟨g, 0, none⟩) l.length cap) := by rw [ST.out.below.cell (p := ⟨S, 1, none⟩) hSl]; exact s1
        have d2 : ∀ o, (wr.alloc o).cell? ⟨w.heap.size + 1 + 1, 0, none⟩ = some (.pointer (some ⟨w.heap.size + 1, 0, none⟩)) := fun o => by rw [World.cell?_alloc_past _ _ _ (World.block_lt_of_cell? _ _ c2)]; exact c2
        have d4 : ∀ o, (wr.alloc o).cell? ⟨S, 1, none⟩ = some (.slice (some ⟨g, 0, none⟩) l.length cap) := fun o => by rw [World.cell?_alloc_past _ _ _ (World.block_lt_of_cell? _ _ c4)]; exact c4
        clear r1 ho ST
        go_wp2
        go_region
        obtain ⟨W1, hW1⟩ : ∃ W1, ((wr.setCell ⟨w.heap.size + 1, 2, none⟩ (.slice (some ⟨wr.heap.size, 0, none⟩) l.length l.length)).alloc (.cells (madeCells #[.slice none 0 0] l.length) 30)).drew = W1 := ⟨_, rfl⟩
        rw [hW1]
        have M1 := hide (hW1 ▸ MM.out.drew : Sm w W1 g2 wr.heap.size X.length l.length _ _ c _)
        have c5 : W1.cell? ⟨S, 1, none⟩ = some (.slice (some ⟨g, 0, none⟩) l.length cap) := by rw [M1.out.below.cell (p := ⟨S, 1, none⟩) hSl]; exact s1
        have hMg : g2 ≠ wr.heap.size := by omega
        have hM3 : w.heap.size + 3 ≤ wr.heap.size := hSz
        clear hW1 MM hmk f2 c1 c2 c3 c4 d2 d4 hg2 hRlt hSz
        generalize wr.heap.size = M at M1 hMg hM3 ⊢
        have FL := hide (marks_none (l := l))
        generalize (madeCells #[.slice none 0 0] l.length).toList = xs0 at M1 FL
        go_wp2
        go_loopw [116] (fun i wr => ∃ (k : Nat) (xs : List Value), k ≤ l.length ∧ i = .int .i64 k ∧ Hid (Sm w wr g2 M X.length l.length (.slice (some ⟨gt, 0, none⟩) X.length X.length) X.length c xs) ∧ Hid (Marked l k xs)) (fun i _ => l.length - (intOf i).toNat)
        case atStart => exact ⟨0, xs0, by omega, rfl, M1, FL⟩
        case round =>
          clear M1 FL c5
          obtain ⟨k, xs, hk, rfl, SM, MK⟩ := hrel
          have r2 : wr.cell? ⟨w.heap.size + 1 + 1, 0, none⟩ = some (.pointer (some ⟨w.heap.size + 1, 0, none⟩)) := cell_of_one SM.out.rb
          have r3 : wr.cell? ⟨w.heap.size + 1, 2, none⟩ = some (.slice (some ⟨M, 0, none⟩) l.length l.length) := by simp [World.cell?, SM.out.red]
          by_cases hlt : k < l.length
          · have hg : g < w.heap.size := World.block_lt_of_cell? w ⟨g, 0, none⟩ (HO.out.cellAt 0 (by omega) |>.trans (flatS_at l 0 (by omega)).1)
            have c1 : wr.cell? ⟨g, k * 2, none⟩ = some (.string (l.getD k P0).1) := by
              rw [SM.out.below.cell (p := ⟨g, k * 2, none⟩) hg, HO.out.cellAt (k * 2) (by omega)]
              exact (flatS_at l k hlt).1
            have c2 : wr.cell? ⟨g, k * 2 + 1, none⟩ = some (.string (l.getD k P0).2) := by
              rw [SM.out.below.cell (p := ⟨g, k * 2 + 1, none⟩) hg, HO.out.cellAt (k * 2 + 1) (by omega)]
              exact (flatS_at l k hlt).2
            have PK := hide (HP.out k hlt)
            have MS := hide (MK.out.set hlt)
            generalize l.getD k P0 = pk at c1 c2 PK MS
            obtain ⟨tx, nm⟩ := pk
            obtain ⟨pk1, pk2, pk3⟩ : 0 < tx.size ∧ tx.size ≤ 1048576 ∧ nm.size ≤ 1048576 := PK.out
            clear PK
            obtain ⟨q1, q2⟩ : (∃ u, wr.cell? ⟨M, k, none⟩ = some u) ∧ wr.frozen? ⟨M, k, none⟩ = false := ⟨by rw [SM.out.mks.cellAt k (by omega)]; exact ⟨_, List.getElem?_eq_getElem (by rw [MK.out.1]; exact hlt)⟩, SM.out.mks.frozenAt k⟩
            obtain ⟨u0, q1⟩ := q1
            have x1 : ¬ ((k : Int) < 0 ∨ (l.length : Int) ≤ (k : Int)) := by omega
            have hRl := World.block_lt_of_cell? _ _ r2
            have d2 : ∀ o, (wr.alloc o).cell? ⟨w.heap.size + 1 + 1, 0, none⟩ = some (.pointer (some ⟨w.heap.size + 1, 0, none⟩)) := fun o => by rw [World.cell?_alloc_past _ _ _ (World.block_lt_of_cell? _ _ r2)]; exact r2
            have d3 : ∀ o, (wr.alloc o).cell? ⟨w.heap.size + 1, 2, none⟩ = some (.slice (some ⟨M, 0, none⟩) l.length l.length) := fun o => by rw [World.cell?_alloc_past _ _ _ (World.block_lt_of_cell? _ _ r3)]; exact r3
            have d4 : ∀ o, (wr.alloc o).cell? ⟨M, k, none⟩ = some u0 := fun o => by rw [World.cell?_alloc_past _ _ _ (World.block_lt_of_cell? _ _ q1)]; exact q1
            have e2 : ∀ o o', ((wr.alloc o).alloc o').cell? ⟨w.heap.size + 1 + 1, 0, none⟩ = some (.pointer (some ⟨w.heap.size + 1, 0, none⟩)) := fun o o' => by rw [World.cell?_alloc_past _ _ _ (World.block_lt_of_cell? _ _ (d2 o))]; exact d2 o
            have e3 : ∀ o o', ((wr.alloc o).alloc o').cell? ⟨w.heap.size + 1, 2, none⟩ = some (.slice (some ⟨M, 0, none⟩) l.length l.length) := fun o o' => by rw [World.cell?_alloc_past _ _ _ (World.block_lt_of_cell? _ _ (d3 o))]; exact d3 o
            have e4 : ∀ o o', ((wr.alloc o).alloc o').cell? ⟨M, k, none⟩ = some u0 := fun o o' => by rw [World.cell?_alloc_past _ _ _ (World.block_lt_of_cell? _ _ (d4 o))]; exact d4 o
            have z1 : ∀ o, (wr.alloc o).frozen? ⟨M, k, none⟩ = false := fun o => by rw [World.frozen?_of_block (a := ⟨M, k, none⟩) (Below.heap_alloc _ _ _ (World.block_lt_of_cell? _ _ q1))]; exact q2
            have z2 : ∀ o o', ((wr.alloc o).alloc o').frozen? ⟨M, k, none⟩ = false := fun o o' => by rw [World.frozen?_of_block (a := ⟨M, k, none⟩) (Below.heap_alloc _ _ _ (World.block_lt_of_cell? _ _ (d4 o)))]; exact z1 o
            have MA := fun w => mark_any nm w (by omega)
            clear hg
            go_wp2
            go_region_with (go_at_call 24; refine (MA _).mono ?_; rintro e w' ⟨rfl, rfl⟩)
            all_goals
              go_wp2
              go_roundw
              case rel => exact ⟨k + 1, _, by omega, by go_num, ((((SM.out.alloc _).alloc _).mark k _ hMg).drew).drew, MS.out _ _⟩
              case measure => simp [intOf]; omega
          · have ek2 : k = l.length := by omega
            subst ek2
            have r5 : wr.cell? ⟨w.heap.size + 1, 3, none⟩ = some (.int .i64 X.length) := by simp [World.cell?, SM.out.red]
            have r6 : wr.frozen? ⟨w.heap.size + 1, 3, none⟩ = false := by simp [World.frozen?, SM.out.red]
            have SR := hide (SM.out.reset 0)
            have PA := pieces_any (w.heap.size + 1)
            have r7 : (wr.setCell ⟨w.heap.size + 1, 3, none⟩ (.int .i64 0)).cell? ⟨w.heap.size + 1 + 1, 0, none⟩ = some (.pointer (some ⟨w.heap.size + 1, 0, none⟩)) := cell_of_one SR.out.rb
            have PI := hide (pinv_of_sm SR.out hcl rfl MK.out)
            have BN := hide (Bnd.red (cut := cut) (X := X) (J := (l.length : Int)) (l.map fun p => p.1.data.toList) 0 (C := none) (fun p _ => ⟨Int.le_refl _, by show (0 : Int) ≤ _; omega⟩) (fun c h => by cases h) (by rw [List.length_map]; omega))
            rw [HC.out] at BN
            have SA := hide (SR.out.alloc (.cells #[.pointer (some ⟨w.heap.size + 1, 0, none⟩)] 36 (0, 0)))
            have SQ := hide (seq_pieces PI.out hn hcl (fun j hj => BN.out j hj) (by omega))
            try simp only [World.size_setCell] at SQ
            go_wp2_with (go_at_call 25; refine (PA _).mono ?_; rintro e w' ⟨rfl, rfl⟩)
            try simp only [World.size_setCell]
            obtain ⟨W3, hW3⟩ : ∃ W3, (wr.setCell ⟨w.heap.size + 1, 3, none⟩ (.int .i64 0)).alloc (.cells #[.pointer (some ⟨w.heap.size + 1, 0, none⟩)] 36 (0, 0)) = W3 := ⟨_, rfl⟩
            rw [hW3] at SA SQ ⊢
            clear hW3 PI BN SR
            have hR3 : w.heap.size + 1 < W3.heap.size := by have := SA.out.size; omega
            have H0 : Hid (IR W3 (w.heap.size + 1) (.slice (some ⟨gt, 0, none⟩) X.length X.length) (.slice (some ⟨g2, 0, none⟩) X.length X.length) (.slice (some ⟨M, 0, none⟩) l.length l.length) [] W3) := ⟨SA.out.red, World.grownBy.refl _ _⟩
            refine rf_box rfl SQ.out hR3 _ (IR.own hR3) (fun s W h => h.2.size) H0.out ?assign ?body ?done
            case assign =>
              intro l pre x W K hI hK
              simp only [cellsP, encP] at hK
              simp only [encP]
              gi_wp2
              exact hK
            case body =>
              intro l pre x B W hB hc hI hlt
              have y1 : W.cell? ⟨w.heap.size + 1, 3, none⟩ = some (.int .i64 (IntKind.i64.wrap (lenSum pre : Nat))) := by simp [World.cell?, hI.1]
              have y2 : W.frozen? ⟨w.heap.size + 1, 3, none⟩ = false := by simp [World.frozen?, hI.1]
              have y3 : W.cell? ⟨w.heap.size + 1 + 1, 0, none⟩ = some (.pointer (some ⟨w.heap.size + 1, 0, none⟩)) := cell_of_one ((hI.2.block _ (lt_of_block SA.out.rb) (by simp)).trans SA.out.rb)
              have y4 : W.cell? ⟨B, 2, none⟩ = some (.slice x.ad x.len x.cap) := by simp [World.cell?, hc, cellsP]
              have NX := hide (fun z hz => IR.next hR3 hI x z hz)
              clear hI hc
              simp only [encP]
              generalize IntKind.i64.wrap (lenSum pre : Nat) = z0 at y1 NX
              have N2 := NX.out _ rfl
              clear NX
              gi_wp2
              gi_region
              all_goals exact ⟨⟨N2.2.2.size, N2.2.2.same⟩, ⟨N2.2.1.size, N2.2.1.same, N2.2.1.first⟩, N2.1.1, ⟨N2.1.2.os, N2.1.2.tape, N2.1.2.output, N2.1.2.size, N2.1.2.block⟩⟩
            case done =>
              intro D xs W hD hS hI hK
              have y3 : W.cell? ⟨w.heap.size + 1 + 1, 0, none⟩ = some (.pointer (some ⟨w.heap.size + 1, 0, none⟩)) := cell_of_one ((hI.2.block _ (lt_of_block SA.out.rb) (by simp)).trans SA.out.rb)
              have RD := hide (red_done X SA.out hcl hI hS hD)
              clear hI hS
              go_wp2
              refine ⟨by simp, .inl ⟨_, _, rfl, run_takeDeferred hK, ?_⟩⟩
              exact ⟨_, results_tmp rfl _ _ _, _, rfl, by rw [HC.out]; exact (RD.out _).1, (RD.out _).2⟩
end Go.Proofs.Qxb6616271a
