/-
  The redaction in memory; the closure 'cover'.
-/
import Derived.Test.Qxb6616271aBroken
import Derived.Deep.OwnRows
import Derived.RegionTactic
namespace Go.Proofs.Qxb6616271a
set_option linter.unusedVariables false
open Go.RowKit
theorem Try.info21 : (Try.prog.info? 21).map (fun i => (i.zero, i.size, i.bytes)) = some (some (.int .i32 0), 1, 4) := by kernel_rfl
def covV (c : List Int) : List Value := c.map (Value.int .i32)
/-- What 'covered' holds: nothing, or a row of the call's own. -/
def CovOwn (w : World) (base : Nat) (vc : Value) : Option (List Int) → Prop
  | none => vc = .slice none 0 0
  | some c => ∃ g, vc = .slice (some ⟨g, 0, none⟩) c.length c.length ∧ w.ownsRow base 21 1 vc c.length (covV c)
/-- THE REDACTION: its struct in block R. -/
def RedAt (w : World) (base R : Nat) (v ln : Value) (C : Option (List Int)) : Prop :=
  ∃ vc, w.heap[R]? = some (.cells #[v, vc, .slice none 0 0, ln] 52 (0, 0)) ∧ CovOwn w base vc C
structure Still (base R : Nat) (w w' : World) : Prop where
  os : w'.os = w.os
  tape : w'.tape = w.tape
  output : w'.output = w.output
  size : w.heap.size ≤ w'.heap.size
  block : ∀ k, k < w.heap.size → k ≠ R → (k < base ∨ ∀ cs f, w.heap[k]? ≠ some (.cells cs 21 f)) → w'.heap[k]? = w.heap[k]?
theorem Still.refl (base R : Nat) (w : World) : Still base R w w := ⟨rfl, rfl, rfl, Nat.le_refl _, fun _ _ _ _ => rfl⟩
theorem Still.drewN {base R : Nat} {a w : World} (h : Still base R a w) (n : Nat) : Still base R a (w.drewN n) := ⟨h.os, h.tape, h.output, h.size, h.block⟩
theorem Still.trans {base R : Nat} {a b c : World} (h : Still base R a b) (k : Still base R b c) : Still base R a c :=
  ⟨k.os.trans h.os, k.tape.trans h.tape, k.output.trans h.output, Nat.le_trans h.size k.size, fun i hi hB ht => by
    have e := h.block i hi hB ht
    rw [← e]
    exact k.block i (Nat.lt_of_lt_of_le hi h.size) hB (by rw [e]; exact ht)⟩
theorem Still.alloc {base R : Nat} {a w : World} (h : Still base R a w) (o : Obj) : Still base R a (w.alloc o) :=
  ⟨h.os, h.tape, h.output, Nat.le_trans h.size (by simp), fun k hk hB ht => by rw [Below.heap_alloc _ _ _ (Nat.lt_of_lt_of_le hk h.size)]; exact h.block k hk hB ht⟩
theorem Still.below {base R n : Nat} {w w' : World} (h : Still base R w w') (hb : n ≤ base) (hB : n ≤ R) (hn : n ≤ w.heap.size) : Below n w w' :=
  ⟨h.os, h.tape, h.output, h.size, fun k hk => h.block k (by omega) (by omega) (.inl (by omega))⟩
theorem Still.cell {base R : Nat} {w w' : World} (h : Still base R w w') {k o : Nat} {v : Value} {cs : Array Value} {e : TypeId} {f : Nat × Nat} (hh : w.heap[k]? = some (.cells cs e f)) (hB : k ≠ R) (he : e ≠ 21) (hc : w.cell? ⟨k, o, none⟩ = some v) : w'.cell? ⟨k, o, none⟩ = some v := by
  have := h.block k (lt_of_block hh) hB (.inr fun cs' f' h' => by rw [hh] at h'; simp only [Option.some.injEq, Obj.cells.injEq] at h'; exact he h'.2.1)
  rw [World.cell?_of_block (a := ⟨k, o, none⟩) this]; exact hc
theorem Still.heap {base R : Nat} {w w' : World} (h : Still base R w w') {k : Nat} {cs : Array Value} {e : TypeId} {f : Nat × Nat} (hh : w.heap[k]? = some (.cells cs e f)) (hB : k ≠ R) (he : e ≠ 21) : w'.heap[k]? = some (.cells cs e f) := by
  rw [h.block k (lt_of_block hh) hB (.inr fun cs' f' h' => by rw [hh] at h'; simp only [Option.some.injEq, Obj.cells.injEq] at h'; exact he h'.2.1)]; exact hh
theorem RedAt.drewN {w : World} {base R : Nat} {v ln : Value} {C : Option (List Int)} (h : RedAt w base R v ln C) (n : Nat) : RedAt (w.drewN n) base R v ln C := h
/-- A store into the covered row. -/
theorem cov_store {w : World} {base R g k : Nat} {v ln : Value} {c : List Int} {x : Int} (hR : w.heap[R]? = some (.cells #[v, .slice (some ⟨g, 0, none⟩) c.length c.length, .slice none 0 0, ln] 52 (0, 0)))
    (ho : w.ownsRow base 21 1 (.slice (some ⟨g, 0, none⟩) c.length c.length) c.length (covV c)) :
    (w.setCell ⟨g, k, none⟩ (.int .i32 x)).heap[R]? = some (.cells #[v, .slice (some ⟨g, 0, none⟩) (c.set k x).length (c.set k x).length, .slice none 0 0, ln] 52 (0, 0)) ∧
    (w.setCell ⟨g, k, none⟩ (.int .i32 x)).ownsRow base 21 1 (.slice (some ⟨g, 0, none⟩) (c.set k x).length (c.set k x).length) (c.set k x).length (covV (c.set k x)) ∧ Still base R w (w.setCell ⟨g, k, none⟩ (.int .i32 x)) := by
  have hs := ho.stored k (.int .i32 x)
  have hg : ∃ cur, w.heap[g]? = some (.cells cur 21 (0, 0)) ∧ base ≤ g := by
    rcases ho.2 with ⟨h', _⟩ | ⟨g', cap', cur, h', hb, hg, _⟩
    · simp at h'
    · simp only [Value.slice.injEq, Option.some.injEq, Addr.mk.injEq] at h'
      obtain ⟨⟨rfl, _⟩, _⟩ := h'
      exact ⟨cur, hg, hb⟩
  obtain ⟨cur, hg, hbg⟩ := hg
  have hne : R ≠ g := by
    rintro rfl
    rw [hg] at hR
    simp at hR
  refine ⟨?_, ?_, ?_⟩
  · rw [Below.heap_setCell _ _ _ _ hne, List.length_set]; exact hR
  · rw [List.length_set]
    have e : covV (c.set k x) = (covV c).set k (.int .i32 x) := by simp [covV, List.map_set]
    rw [e]
    exact hs.1
  · refine ⟨hs.2.os, hs.2.tape, hs.2.output, hs.2.size, fun j hj hjR ht => ?_⟩
    refine hs.2.block j hj fun e => ?_
    simp only [Option.some.injEq] at e
    subst e
    rcases ht with ht | ht
    · omega
    · exact ht _ _ hg
/-- The row that 'make' lays. -/
theorem cov_made {w : World} {base R n : Nat} {v ln : Value} (hR : w.heap[R]? = some (.cells #[v, .slice none 0 0, .slice none 0 0, ln] 52 (0, 0))) (hb : base ≤ w.heap.size) (hn : n ≤ maxLen) :
    ((w.alloc (.cells (madeCells #[.int .i32 0] n) 21)).setCell ⟨R, 1, none⟩ (.slice (some ⟨w.heap.size, 0, none⟩) n n)).heap[R]? = some (.cells #[v, .slice (some ⟨w.heap.size, 0, none⟩) n n, .slice none 0 0, ln] 52 (0, 0)) ∧
    ((w.alloc (.cells (madeCells #[.int .i32 0] n) 21)).setCell ⟨R, 1, none⟩ (.slice (some ⟨w.heap.size, 0, none⟩) n n)).ownsRow base 21 1 (.slice (some ⟨w.heap.size, 0, none⟩) n n) n (covV (zeros n)) ∧
    Still base R w ((w.alloc (.cells (madeCells #[.int .i32 0] n) 21)).setCell ⟨R, 1, none⟩ (.slice (some ⟨w.heap.size, 0, none⟩) n n)) := by
  have hlt := lt_of_block hR
  have hR1 : (w.alloc (.cells (madeCells #[.int .i32 0] n) 21)).heap[R]? = some (.cells #[v, .slice none 0 0, .slice none 0 0, ln] 52 (0, 0)) := by rw [Below.heap_alloc _ _ _ hlt]; exact hR
  have e : (madeCells #[Value.int .i32 0] n).toList = covV (zeros n) := by
    apply List.ext_getElem?
    intro j
    simp only [madeCells, covV, zeros, List.map_replicate, List.getElem?_replicate, Array.getElem?_toList, Array.getElem?_map, Array.getElem?_range]
    by_cases hj : j < n
    · simp [hj, Nat.mod_one]
    · simp [hj]
  refine ⟨?_, ?_, ?_⟩
  · have hlt1 := lt_of_block hR1
    have h' : (w.alloc (.cells (madeCells #[.int .i32 0] n) 21)).heap[R] = .cells #[v, .slice none 0 0, .slice none 0 0, ln] 52 (0, 0) := by simpa [Array.getElem?_eq_getElem hlt1] using hR1
    show ((w.alloc (.cells (madeCells #[.int .i32 0] n) 21)).heap.modify R _)[R]? = _
    rw [Array.getElem?_eq_getElem (by simpa using hlt1), Array.getElem_modify_self, h']
    rfl
  · have h1 := World.ownsRow_lit (base := base) (e := 21) (size := 1) w (madeCells #[.int .i32 0] n) n hb hn (by rw [size_madeCells]; omega)
    rw [e] at h1
    exact ownsRow_setCell_other h1 (by simp [Value.ownBlock]; omega) _
  · refine ⟨rfl, rfl, rfl, by simp, fun k hk hkR _ => ?_⟩
    rw [Below.heap_setCell _ _ _ _ hkR, Below.heap_alloc _ _ _ hk]
/-- The redaction with the covered row c in block g. -/
def CovRow (w : World) (base R g n : Nat) (v ln : Value) (c : List Int) : Prop :=
  c.length = n ∧ w.heap[R]? = some (.cells #[v, .slice (some ⟨g, 0, none⟩) n n, .slice none 0 0, ln] 52 (0, 0)) ∧ w.ownsRow base 21 1 (.slice (some ⟨g, 0, none⟩) n n) n (covV c)
theorem CovRow.red {w : World} {base R g n : Nat} {v ln : Value} {c : List Int} (h : CovRow w base R g n v ln c) : RedAt w base R v ln (some c) := by
  obtain ⟨rfl, h2, h3⟩ := h
  exact ⟨_, h2, g, rfl, h3⟩
theorem CovRow.store {w : World} {base R g n k : Nat} {v ln : Value} {c : List Int} (h : CovRow w base R g n v ln c) (x : Int) :
    CovRow (w.setCell ⟨g, k, none⟩ (.int .i32 x)) base R g n v ln (c.set k x) ∧ Still base R w (w.setCell ⟨g, k, none⟩ (.int .i32 x)) := by
  obtain ⟨rfl, h2, h3⟩ := h
  obtain ⟨h4, h5, h6⟩ := cov_store (k := k) (x := x) h2 h3
  rw [List.length_set] at h4 h5
  exact ⟨⟨List.length_set, h4, h5⟩, h6⟩
theorem CovRow.cell {w : World} {base R g n k : Nat} {v ln : Value} {c : List Int} (h : CovRow w base R g n v ln c) (hk : k < n) :
    w.cell? ⟨g, k, none⟩ = some (.int .i32 (c.getD k 0)) ∧ w.frozen? ⟨g, k, none⟩ = false ∧ w.cell? ⟨R, 1, none⟩ = some (.slice (some ⟨g, 0, none⟩) n n) := by
  obtain ⟨rfl, h2, h3⟩ := h
  refine ⟨?_, h3.frozenAt k, by simp [World.cell?, h2]⟩
  rw [h3.cellAt k (by omega)]
  simp [covV, List.getD, List.getElem?_eq_getElem hk]
set_option maxHeartbeats 2000000 in
theorem cover_none (base R Rb Tb : Nat) (v ln : Value) (a : Option Addr) (n cap f t i : Nat) (w : World) (hv : v = .slice a n cap) (hn : n ≤ 1048576) (hi : i ≤ 100000) (hft : f < t) (htn : t ≤ n)
    (hRb : w.heap[Rb]? = some (.cells #[.pointer (some ⟨R, 0, none⟩)] 36 (0, 0))) (hTb : w.heap[Tb]? = some (.cells #[v] 30 (0, 0))) (hRR : Rb ≠ R) (hTR : Tb ≠ R) (h : RedAt w base R v ln none) (hb : base ≤ w.heap.size) :
    Calls Try.prog 20 #[.int .i64 f, .int .i64 t, .int .i64 i, .pointer (some ⟨Rb, 0, none⟩), .pointer (some ⟨Tb, 0, none⟩)] w fun e w' => e = .returned (.tuple #[]) ∧ RedAt w' base R v ln (coverM n none f t ((i : Int) + 1)) ∧ Still base R w w' := by
  have hnil := fun (a : Option Addr) (n c : Nat) (w : World) => Lib.run_eql_slice_nil (P := Try.prog) w 39 21 a n c 0 0 Try.underlying39
  have hmk := fun w => run_make_row' (P := Try.prog) 39 21 (.int .i32 0) 4 Try.underlying39 Try.info21 rfl .i64 .i64 n (by omega) (by omega) w
  obtain ⟨vc, hR, rfl⟩ := h
  subst hv
  have M := hide (cov_made (n := n) hR hb (by unfold maxLen; omega))
  have c0 : w.cell? ⟨Rb, 0, none⟩ = some (.pointer (some ⟨R, 0, none⟩)) := cell_of_one hRb
  have c1 : w.cell? ⟨Tb, 0, none⟩ = some (.slice a n cap) := cell_of_one hTb
  have c2 : w.cell? ⟨R, 1, none⟩ = some (.slice none 0 0) := by simp [World.cell?, hR]
  have f2 : w.frozen? ⟨R, 1, none⟩ = false := by simp [World.frozen?, hR]
  have hRlt := lt_of_block hR
  have d0 : ∀ o, (w.alloc o).cell? ⟨Rb, 0, none⟩ = some (.pointer (some ⟨R, 0, none⟩)) := fun o => by rw [World.cell?_alloc_past _ _ _ (lt_of_block hRb)]; exact c0
  have d1 : ∀ o, (w.alloc o).cell? ⟨Tb, 0, none⟩ = some (.slice a n cap) := fun o => by rw [World.cell?_alloc_past _ _ _ (lt_of_block hTb)]; exact c1
  have hne : ((f : Int) == (t : Int)) = false := by simp; omega
  have HRb := hide hRb
  clear hRb hTb hR
  go_enter Try.func20, Try.ntmps20
  go_wp2
  rw [World.setCell_alloc_past _ _ _ _ hRlt] at M
  go_region
  go_wp2
  go_loopw [8] (fun j wr => ∃ k : Nat, f ≤ k ∧ k ≤ t ∧ j = .int .i64 k ∧ Hid (CovRow wr base R w.heap.size n (.slice a n cap) ln (coverL (zeros n) f k ((i : Int) + 1))) ∧ Hid (Still base R w wr)) (fun j _ => t - (intOf j).toNat)
  case atStart => exact ⟨f, by omega, by omega, rfl, ⟨by rw [coverL_length]; simp [zeros], M.out.1, by rw [coverL_none]; exact M.out.2.1⟩, M.out.2.2.drewN 1⟩
  case round =>
    obtain ⟨k, hk1, hk2, rfl, HC, HS⟩ := hrel
    have e0 : wr.cell? ⟨Rb, 0, none⟩ = some (.pointer (some ⟨R, 0, none⟩)) := HS.out.cell HRb.out hRR (by decide) (cell_of_one HRb.out)
    by_cases hlt : k < t
    · obtain ⟨q1, q2, q3⟩ := HC.out.cell (k := k) (by omega)
      have ST := hide (HC.out.store (k := k) ((i : Int) + 1))
      have CS := hide (coverL_step (zeros n) f k ((i : Int) + 1) hk1 (by simp only [zeros, List.length_replicate]; omega))
      have EQ : Hid ((coverL (zeros n) f k ((i : Int) + 1)).getD k 0 = (zeros n).getD k 0) := by
        show _ = _
        rw [coverL_get, if_pos (by simp only [zeros, List.length_replicate]; omega), if_neg (by omega)]
      rw [EQ.out] at q1
      have EL : Hid ((coverL (zeros n) f k ((i : Int) + 1)).set k ((zeros n).getD k 0) = coverL (zeros n) f k ((i : Int) + 1)) := by
        show _ = _
        rw [← EQ.out, List.getD]
        apply List.ext_getElem?
        intro j
        rw [List.getElem?_set]
        by_cases e : k = j
        · subst e
          rw [if_pos rfl]
          split
          · rename_i h; simp [List.getElem?_eq_getElem h]
          · rename_i h; rw [List.getElem?_eq_none (by omega)]
        · rw [if_neg e]
      by_cases hz : (zeros n).getD k 0 = 0
      · have CS' : Hid (coverL (zeros n) f (k + 1) ((i : Int) + 1) = (coverL (zeros n) f k ((i : Int) + 1)).set k ((i : Int) + 1)) := by
          show _ = _
          rw [CS.out, if_pos hz]
        rw [hz] at q1
        clear EQ EL CS hz
        go_wp2
        go_roundw
        case rel => exact ⟨k + 1, by omega, by omega, by go_num, by rw [CS'.out]; exact ST.out.1, HS.out.trans ST.out.2⟩
        case measure => simp [intOf]; omega
      · have CS' : Hid (coverL (zeros n) f (k + 1) ((i : Int) + 1) = coverL (zeros n) f k ((i : Int) + 1)) := by
          show _ = _
          rw [CS.out, if_neg hz, EL.out]
        have hz' : ((zeros n).getD k 0 == 0) = false := by simpa using hz
        clear EQ EL CS hz
        generalize (zeros n).getD k 0 = x at q1 hz'
        go_wp2
        go_roundw
        case rel => exact ⟨k + 1, by omega, by omega, by go_num, by rw [CS'.out]; exact HC, HS⟩
        case measure => simp [intOf]; omega
    · have ek : k = t := by omega
      subst ek
      go_wp2
      go_end0
      exact ⟨rfl, by rw [coverM, if_neg (by omega)]; exact HC.out.red, HS.out⟩
set_option maxHeartbeats 2000000 in
theorem cover_some (base R Rb Tb : Nat) (v ln : Value) (a : Option Addr) (n cap f t i : Nat) (c : List Int) (w : World) (hv : v = .slice a n cap) (hn : n ≤ 1048576) (hi : i ≤ 100000) (hft : f < t) (htn : t ≤ n) (hcn : c.length = n)
    (hRb : w.heap[Rb]? = some (.cells #[.pointer (some ⟨R, 0, none⟩)] 36 (0, 0))) (hTb : w.heap[Tb]? = some (.cells #[v] 30 (0, 0))) (hRR : Rb ≠ R) (hTR : Tb ≠ R) (h : RedAt w base R v ln (some c)) (hb : base ≤ w.heap.size) :
    Calls Try.prog 20 #[.int .i64 f, .int .i64 t, .int .i64 i, .pointer (some ⟨Rb, 0, none⟩), .pointer (some ⟨Tb, 0, none⟩)] w fun e w' => e = .returned (.tuple #[]) ∧ RedAt w' base R v ln (coverM n (some c) f t ((i : Int) + 1)) ∧ Still base R w w' := by
  have hnil := fun (a : Option Addr) (n c : Nat) (w : World) => Lib.run_eql_slice_nil (P := Try.prog) w 39 21 a n c 0 0 Try.underlying39
  obtain ⟨vc, hR, g, rfl, ho⟩ := h
  subst hv
  have CR : Hid (CovRow w base R g n (.slice a n cap) ln c) := by
    subst hcn
    exact ⟨rfl, hR, ho⟩
  have c0 : w.cell? ⟨Rb, 0, none⟩ = some (.pointer (some ⟨R, 0, none⟩)) := cell_of_one hRb
  have c2 : w.cell? ⟨R, 1, none⟩ = some (.slice (some ⟨g, 0, none⟩) n n) := (CR.out.cell (k := f) (by omega)).2.2
  have hne : ((f : Int) == (t : Int)) = false := by simp; omega
  have HRb := hide hRb
  have HCN := hide hcn
  clear hRb hTb hR ho hcn
  go_enter Try.func20, Try.ntmps20
  go_wp2
  go_loopw [8] (fun j wr => ∃ k : Nat, f ≤ k ∧ k ≤ t ∧ j = .int .i64 k ∧ Hid (CovRow wr base R g n (.slice a n cap) ln (coverL c f k ((i : Int) + 1))) ∧ Hid (Still base R w wr)) (fun j _ => t - (intOf j).toNat)
  case atStart => exact ⟨f, by omega, by omega, rfl, ⟨by rw [coverL_length]; exact HCN.out, CR.out.2.1, by rw [coverL_none]; exact CR.out.2.2⟩, Still.refl _ _ _⟩
  case round =>
    obtain ⟨k, hk1, hk2, rfl, HC, HS⟩ := hrel
    have e0 : wr.cell? ⟨Rb, 0, none⟩ = some (.pointer (some ⟨R, 0, none⟩)) := HS.out.cell HRb.out hRR (by decide) (cell_of_one HRb.out)
    by_cases hlt : k < t
    · obtain ⟨q1, q2, q3⟩ := HC.out.cell (k := k) (by omega)
      have ST := hide (HC.out.store (k := k) ((i : Int) + 1))
      have CS := hide (coverL_step c f k ((i : Int) + 1) hk1 (by rw [HCN.out]; omega))
      have EQ : Hid ((coverL c f k ((i : Int) + 1)).getD k 0 = c.getD k 0) := by
        show _ = _
        rw [coverL_get, if_pos (by rw [HCN.out]; omega), if_neg (by omega)]
      rw [EQ.out] at q1
      have EL : Hid ((coverL c f k ((i : Int) + 1)).set k (c.getD k 0) = coverL c f k ((i : Int) + 1)) := by
        show _ = _
        rw [← EQ.out, List.getD]
        apply List.ext_getElem?
        intro j
        rw [List.getElem?_set]
        by_cases e : k = j
        · subst e
          rw [if_pos rfl]
          split
          · rename_i h; simp [List.getElem?_eq_getElem h]
          · rename_i h; rw [List.getElem?_eq_none (by omega)]
        · rw [if_neg e]
      by_cases hz : c.getD k 0 = 0
      · have CS' : Hid (coverL c f (k + 1) ((i : Int) + 1) = (coverL c f k ((i : Int) + 1)).set k ((i : Int) + 1)) := by
          show _ = _
          rw [CS.out, if_pos hz]
        rw [hz] at q1
        clear EQ EL CS hz
        go_wp2
        go_roundw
        case rel => exact ⟨k + 1, by omega, by omega, by go_num, by rw [CS'.out]; exact ST.out.1, HS.out.trans ST.out.2⟩
        case measure => simp [intOf]; omega
      · have CS' : Hid (coverL c f (k + 1) ((i : Int) + 1) = coverL c f k ((i : Int) + 1)) := by
          show _ = _
          rw [CS.out, if_neg hz, EL.out]
        have hz' : (c.getD k 0 == 0) = false := by simpa using hz
        clear EQ EL CS hz
        generalize c.getD k 0 = x at q1 hz'
        go_wp2
        go_roundw
        case rel => exact ⟨k + 1, by omega, by omega, by go_num, by rw [CS'.out]; exact HC, HS⟩
        case measure => simp [intOf]; omega
    · have ek : k = t := by omega
      subst ek
      go_wp2
      go_end0
      exact ⟨rfl, by rw [coverM, if_neg (by omega)]; exact HC.out.red, HS.out⟩
set_option maxHeartbeats 2000000 in
theorem cover_same (Rb Tb f i : Nat) (w : World) :
    Calls Try.prog 20 #[.int .i64 f, .int .i64 f, .int .i64 i, .pointer (some ⟨Rb, 0, none⟩), .pointer (some ⟨Tb, 0, none⟩)] w fun e w' => e = .returned (.tuple #[]) ∧ w' = w := by
  have he : ((f : Int) == (f : Int)) = true := by simp
  go_enter Try.func20, Try.ntmps20
  go_wp2
  refine bodyPost_ret (results_none rfl _ _ _) rfl ?_
  exact ⟨rfl, rfl⟩
theorem cover_any (base R Rb Tb : Nat) (v ln : Value) (a : Option Addr) (n cap f t i : Nat) (C : Option (List Int)) (w : World) (hv : v = .slice a n cap) (hn : n ≤ 1048576) (hi : i ≤ 100000) (hft : f ≤ t) (htn : t ≤ n) (hC : Sized n C)
    (hRb : w.heap[Rb]? = some (.cells #[.pointer (some ⟨R, 0, none⟩)] 36 (0, 0))) (hTb : w.heap[Tb]? = some (.cells #[v] 30 (0, 0))) (hRR : Rb ≠ R) (hTR : Tb ≠ R) (h : RedAt w base R v ln C) (hb : base ≤ w.heap.size) :
    Calls Try.prog 20 #[.int .i64 f, .int .i64 t, .int .i64 i, .pointer (some ⟨Rb, 0, none⟩), .pointer (some ⟨Tb, 0, none⟩)] w fun e w' => e = .returned (.tuple #[]) ∧ RedAt w' base R v ln (coverM n C f t ((i : Int) + 1)) ∧ Still base R w w' := by
  by_cases e : f = t
  · subst e
    refine (cover_same Rb Tb f i w).mono ?_
    rintro e w' ⟨rfl, rfl⟩
    exact ⟨rfl, by rw [coverM, if_pos rfl]; exact h, Still.refl _ _ _⟩
  · cases C with
    | none => exact cover_none base R Rb Tb v ln a n cap f t i w hv hn hi (by omega) htn hRb hTb hRR hTR h hb
    | some c => exact cover_some base R Rb Tb v ln a n cap f t i c w hv hn hi (by omega) htn (hC c rfl) hRb hTb hRR hTR h hb
end Go.Proofs.Qxb6616271a
