/-
  The iterator of '(*Redaction).pieces'.
-/
import Derived.Test.Qxb6616271aCover
import Derived.RangeFuncNested
import Derived.RangeFuncBound
import Derived.RangeFuncCalls
import Derived.RangeFuncLeaves
import Derived.OwnWalkIn
import Derived.TacticsInMore
import Derived.LoopNIn
import Derived.LoopIn
import Derived.Deep.QuietTactic
import Derived.BigQuiet
namespace Go.Proofs.Qxb6616271a
set_option linter.unusedVariables false
open Go.RowKit
attribute [local go_sem] Oper.semAt_some
/-- Where the run that holds place j ends: those that are covered, or those that are not. -/
def inRun (pl : Bool) (x : Int) : Bool := (x == 0) == pl
def rTo (c : List Int) (pl : Bool) (j : Nat) : Nat := j + ((c.drop j).takeWhile (inRun pl)).length
theorem rTo_step {c : List Int} {pl : Bool} {j : Nat} (h : j < c.length) (hp : inRun pl (c.getD j 0) = true) : rTo c pl j = rTo c pl (j + 1) := by
  unfold rTo
  rw [List.getD, List.getElem?_eq_getElem h] at hp
  rw [List.drop_eq_getElem_cons h, List.takeWhile_cons, if_pos (show inRun pl c[j] = true from hp), List.length_cons]
  omega
theorem rTo_stop {c : List Int} {pl : Bool} {j : Nat} (h : j < c.length) (hp : inRun pl (c.getD j 0) = false) : rTo c pl j = j := by
  unfold rTo
  rw [List.getD, List.getElem?_eq_getElem h] at hp
  rw [List.drop_eq_getElem_cons h, List.takeWhile_cons, if_neg (by rw [show inRun pl c[j] = false from hp]; decide)]
  simp
theorem rTo_end {c : List Int} {pl : Bool} {j : Nat} (h : c.length ≤ j) : rTo c pl j = j := by
  unfold rTo; rw [List.drop_of_length_le h]; simp
theorem rTo_ge (c : List Int) (pl : Bool) (j : Nat) : j ≤ rTo c pl j := by unfold rTo; omega
theorem rTo_le (c : List Int) (pl : Bool) (j : Nat) (h : j ≤ c.length) : rTo c pl j ≤ c.length := by
  unfold rTo
  have : ((c.drop j).takeWhile (inRun pl)).length ≤ (c.drop j).length := (List.takeWhile_sublist _).length_le
  rw [List.length_drop] at this
  omega
/-- How long what is shown from place k on is: c: what covers; ml: how long each mark is. -/
def plenF (c : List Int) (ml : List Nat) : Nat → Nat → Nat
  | 0, _ => 0
  | f + 1, k => if k < c.length then (if c.getD k 0 = 0 then rTo c true (k + 1) - k else ml.getD ((c.getD k 0).toNat - 1) 0) + plenF c ml f (rTo c (c.getD k 0 == 0) (k + 1)) else 0
theorem plenF_fuel (c : List Int) (ml : List Nat) : ∀ (n m k : Nat), c.length < n + k → c.length < m + k → plenF c ml n k = plenF c ml m k
  | 0, 0, _, _, _ => rfl
  | 0, m + 1, k, h, _ => by rw [plenF, plenF, if_neg (by omega)]
  | n + 1, 0, k, _, h => by rw [plenF, plenF, if_neg (by omega)]
  | n + 1, m + 1, k, h1, h2 => by
    rw [plenF, plenF]
    by_cases hk : k < c.length
    · rw [if_pos hk, if_pos hk]
      have hb := rTo_ge c (c.getD k 0 == 0) (k + 1)
      rw [plenF_fuel c ml n m _ (by omega) (by omega)]
    · rw [if_neg hk, if_neg hk]
def plen (c : List Int) (ml : List Nat) (k : Nat) : Nat := plenF c ml (c.length + 1 - k) k
theorem plen_end {c : List Int} {ml : List Nat} {k : Nat} (h : c.length ≤ k) : plen c ml k = 0 := by
  unfold plen
  cases e : c.length + 1 - k with
  | zero => rfl
  | succ n => rw [plenF, if_neg (by omega)]
theorem plen_step {c : List Int} {ml : List Nat} {k : Nat} (h : k < c.length) :
    plen c ml k = (if c.getD k 0 = 0 then rTo c true (k + 1) - k else ml.getD ((c.getD k 0).toNat - 1) 0) + plen c ml (rTo c (c.getD k 0 == 0) (k + 1)) := by
  have hb := rTo_ge c (c.getD k 0 == 0) (k + 1)
  unfold plen
  rw [show c.length + 1 - k = (c.length - k) + 1 from by omega, plenF, if_pos h]
  rw [plenF_fuel c ml (c.length - k) (c.length + 1 - rTo c (c.getD k 0 == 0) (k + 1)) _ (by omega) (by omega)]
/-- A piece, as it is handed to the loop's body. -/
structure Piece where
  a : Int
  b : Int
  ad : Option Addr
  len : Nat
  cap : Nat
  sa : Int
  pl : Bool
def encP (x : Piece) : Value := .agg #[.int .i64 x.a, .int .i64 x.b, .slice x.ad x.len x.cap, .int .i64 x.sa, .bool x.pl]
def lenSum (l : List Piece) : Nat := (l.map Piece.len).sum
theorem lenSum_snoc (l : List Piece) (x : Piece) : lenSum (l ++ [x]) = lenSum l + x.len := by simp [lenSum]
/-- What a round keeps: every block of cells but the redaction's own; of that, the first three fields. -/
structure Kp (R : Nat) (W W' : World) : Prop where
  size : W.heap.size ≤ W'.heap.size
  same : ∀ k cs t f, k ≠ R → W.heap[k]? = some (.cells cs t f) → W'.heap[k]? = some (.cells cs t f)
  first : ∀ o, o < 3 → W'.cell? ⟨R, o, none⟩ = W.cell? ⟨R, o, none⟩
theorem Kp.refl (R : Nat) (W : World) : Kp R W W := ⟨Nat.le_refl _, fun _ _ _ _ _ h => h, fun _ _ => rfl⟩
theorem Kp.trans {R : Nat} {A B C : World} (h : Kp R A B) (k : Kp R B C) : Kp R A C :=
  ⟨Nat.le_trans h.size k.size, fun i cs t f hi hh => k.same i cs t f hi (h.same i cs t f hi hh), fun o ho => (k.first o ho).trans (h.first o ho)⟩
/-- What the iterator reads. -/
structure PInv (R B2 gt g M n tn : Nat) (c : List Int) (ml : List Nat) (W : World) : Prop where
  b2 : W.heap[B2]? = some (.cells #[.pointer (some ⟨R, 0, none⟩)] 36 (0, 0))
  b2R : B2 ≠ R
  c0 : W.cell? ⟨R, 0, none⟩ = some (.slice (some ⟨gt, 0, none⟩) n n)
  c1 : W.cell? ⟨R, 1, none⟩ = some (.slice (some ⟨g, 0, none⟩) n n)
  c2 : W.cell? ⟨R, 2, none⟩ = some (.slice (some ⟨M, 0, none⟩) tn tn)
  gR : g ≠ R
  MR : M ≠ R
  cov : ∃ cs f, W.heap[g]? = some (.cells cs 21 f) ∧ ∀ j, j < n → cs[j]? = some (.int .i32 (c.getD j 0))
  mks : ∃ cs f, W.heap[M]? = some (.cells cs 30 f) ∧ ∀ i, i < tn → ∃ ad cap, cs[i]? = some (.slice ad (ml.getD i 0) cap)
theorem PInv.kept {R B2 gt g M n tn : Nat} {c : List Int} {ml : List Nat} {W W' : World} (h : PInv R B2 gt g M n tn c ml W) (k : Kp R W W') : PInv R B2 gt g M n tn c ml W' := by
  obtain ⟨cs, f, h1, h2⟩ := h.cov
  obtain ⟨cs', f', h3, h4⟩ := h.mks
  exact ⟨k.same _ _ _ _ h.b2R h.b2, h.b2R, (k.first 0 (by omega)).trans h.c0, (k.first 1 (by omega)).trans h.c1, (k.first 2 (by omega)).trans h.c2, h.gR, h.MR,
    ⟨cs, f, k.same _ _ _ _ h.gR h1, h2⟩, ⟨cs', f', k.same _ _ _ _ h.MR h3, h4⟩⟩
theorem PInv.drewN {R B2 gt g M n tn : Nat} {c : List Int} {ml : List Nat} {W : World} (h : PInv R B2 gt g M n tn c ml W) (q : Nat) : PInv R B2 gt g M n tn c ml (W.drewN q) :=
  ⟨h.b2, h.b2R, h.c0, h.c1, h.c2, h.gR, h.MR, h.cov, h.mks⟩
theorem Kp.alloc {R : Nat} {A W : World} (h : Kp R A W) (o : Obj) (hR : R < W.heap.size) : Kp R A (W.alloc o) :=
  ⟨Nat.le_trans h.size (by simp), fun k cs t f hk hh => by have := h.same k cs t f hk hh; rw [Below.heap_alloc _ _ _ (lt_of_block this)]; exact this,
    fun q hq => by rw [World.cell?_alloc_past _ _ _ hR]; exact h.first q hq⟩
theorem grown_drewN (w : World) (n : Nat) : w.grownBy (w.drewN n) none := ⟨rfl, rfl, rfl, Nat.le_refl _, fun _ _ _ => rfl⟩
theorem grown_drewA (w : World) (o : Obj) : w.grownBy (w.alloc o).drew none :=
  let h := World.grownBy_alloc w o none
  ⟨h.os, h.tape, h.output, h.size, h.block⟩
theorem block_new (w : World) (o : Obj) : (w.alloc o).heap[w.heap.size]? = some o := by
  have h : (w.alloc o).heap = w.heap.push o := rfl
  rw [h]; simp
set_option maxRecDepth 100000 in
set_option maxHeartbeats 4000000 in
theorem pieces_in (m l R B2 gt g M n tn N : Nat) (c : List Int) (ml : List Nat) (hn : n ≤ 1048576) (hc : c.length = n) (hcr : ∀ j, j < n → 0 ≤ c.getD j 0 ∧ c.getD j 0 ≤ tn) (htn : tn ≤ 65536) (hN : n ≤ N) (J Jx : List Piece → World → Prop) (W : World)
    (hJ : AbidesFrom W.heap.size J)
    (hY : ∀ pre x W1, J pre W1 → pre.length < N → YieldAt Fence.wide m Try.prog l #[encP x] W1 fun e W' => (e = .returned (.bool true) ∧ J (pre ++ [x]) W' ∧ Kp R W1 W') ∨ (e = .returned (.bool false) ∧ Jx (pre ++ [x]) W'))
    (h0 : J [] W) (hP : PInv R B2 gt g M n tn c ml W) :
    CallsIn Fence.wide (m + 1) Try.prog 33 #[.func (.yield l) #[] #[], .pointer (some ⟨B2, 0, none⟩)] W fun e W' => (∃ v, e = .returned v) ∧ ((∃ xs, lenSum xs = plen c ml 0 ∧ J xs W') ∨ (∃ pre, True ∧ Jx pre W')) := by
  have hnil := fun (a : Option Addr) (n c : Nat) (w : World) => Lib.run_eql_slice_nil (P := Try.prog) w 39 21 a n c 0 0 Try.underlying39
  have HY := hide hY
  have HJ := hide hJ
  have HP := hide hP
  have H0 := hide h0
  have HCL := hide hc
  have HCR := hide hcr
  clear hY hJ hP h0 hc hcr
  refine callsIn_of_wp Try.func33 rfl trivial ?_ rfl
  simp only [Try.ntmps33, List.size_toArray, List.length_cons, List.length_nil, Nat.reduceAdd, Nat.reduceSub, Array.replicate_succ, Array.replicate_zero, List.push_toArray, List.append_toArray, List.nil_append, List.cons_append]
  gi_wp2
  gi_loopw [3, 4] (fun s i wr => ∃ (k : Nat) (z : Int) (pre : List Piece), k ≤ n ∧ i = .int .i64 k ∧ s = .int .i64 z ∧ pre.length ≤ k ∧ Hid (J pre wr) ∧ Hid (PInv R B2 gt g M n tn c ml wr) ∧ Hid (W.heap.size ≤ wr.heap.size) ∧ Hid (lenSum pre + plen c ml k = plen c ml 0)) (fun _ i _ => n - (intOf i).toNat)
  case atStart => exact ⟨0, 0, [], by omega, rfl, rfl, by simp, H0, HP, Nat.le_refl _, by show _ + _ = _; simp [lenSum]⟩
  case round =>
    clear H0 HP
    obtain ⟨k, z, pre, hk, rfl, rfl, hpl, HJs, HP, HZ, HL⟩ := hrel
    have b2 : wr.cell? ⟨B2, 0, none⟩ = some (.pointer (some ⟨R, 0, none⟩)) := cell_of_one HP.out.b2
    have q0 := HP.out.c0
    have q1 := HP.out.c1
    have q2 := HP.out.c2
    by_cases hlt : k < n
    · obtain ⟨cs, f, g1, g2⟩ := HP.out.cov
      have e1 : wr.cell? ⟨g, k, none⟩ = some (.int .i32 (c.getD k 0)) := by
        simp only [World.cell?, g1]; exact g2 k hlt
      have x1 : ¬ ((k : Int) < 0 ∨ (n : Int) ≤ (k : Int)) := by omega
      have w1 : IntKind.i64.wrap ((k : Int) + 1) = ((k + 1 : Nat) : Int) := by rw [wrapi _ (by omega) (by omega)]; omega
      obtain ⟨x, HX⟩ : ∃ x, Hid (c.getD k 0 = x) := ⟨_, rfl⟩
      rw [HX.out] at e1
      have hRlt : R < wr.heap.size := World.block_lt_of_cell? _ _ q0
      by_cases hz : x = 0
      · subst hz
        have hz' : ((0 : Int) == 0) = true := rfl
        gi_wp2
        gi_loopw [6] (fun i wr' => ∃ j : Nat, k + 1 ≤ j ∧ j ≤ n ∧ i = .int .i64 j ∧ wr' = wr ∧ Hid (rTo c true j = rTo c true (k + 1))) (fun i _ => n - (intOf i).toNat)
        case atStart => exact ⟨k + 1, by omega, by omega, by go_num, rfl, rfl⟩
        case round =>
          obtain ⟨j, hj1, hj2, rfl, rfl, HR⟩ := hrel
          by_cases hjn : j < n
          · have e2 : wr.cell? ⟨g, j, none⟩ = some (.int .i32 (c.getD j 0)) := by
              simp only [World.cell?, g1]; exact g2 j hjn
            have x2 : ¬ ((j : Int) < 0 ∨ (n : Int) ≤ (j : Int)) := by omega
            obtain ⟨y, HYQ⟩ : ∃ y, Hid (c.getD j 0 = y) := ⟨_, rfl⟩
            rw [HYQ.out] at e2
            by_cases hin : inRun true y = true
            · have hin' : (y == 0) = true := by simpa [inRun] using hin
              have HS := hide (rTo_step (pl := true) (by rw [HCL.out]; omega) (by rw [HYQ.out]; exact hin))
              clear hin
              gi_wp2
              exact ⟨⟨j + 1, by omega, by omega, by go_num, trivial, HS.out.symm.trans HR.out⟩, by simp [intOf]; omega⟩
            · have hin' : (y == 0) = !true := by simpa [inRun] using hin
              have HS := hide ((rTo_stop (pl := true) (by rw [HCL.out]; omega) (by rw [HYQ.out]; simpa using hin)).symm.trans HR.out)
              clear hin
              have G := World.grownBy_alloc wr (.cells #[.int .i64 k, .int .i64 j, .slice (some ⟨gt, k, none⟩) (j - k) (n - k), .int .i64 z, .bool true] 60 (0, 0)) none
              obtain ⟨fn, tmps, assign, body, hy, hR⟩ := HY.out pre ⟨k, j, some ⟨gt, k, none⟩, j - k, n - k, z, true⟩ _ (HJ.out _ _ _ none HJs.out G (by simp)) (by omega)
              simp only [encP] at hy
              gi_wp2
              refine hR.mono ?_
              rintro e W3 (⟨rfl, hJ3, hk3⟩ | ⟨rfl, hJx3⟩)
              · have k0 := (Kp.refl R wr).alloc (.cells #[.int .i64 k, .int .i64 j, .slice (some ⟨gt, k, none⟩) (j - k) (n - k), .int .i64 z, .bool true] 60 (0, 0)) hRlt
                have HP3 := hide (HP.out.kept (k0.trans hk3))
                have HJ3 := hide hJ3
                have HZ3 := hide (Nat.le_trans HZ.out (k0.trans hk3).size)
                have h := hk3.same wr.heap.size _ 60 (0, 0) (by omega) (block_new wr _)
                have pc : W3.cell? ⟨wr.heap.size, 2, none⟩ = some (.slice (some ⟨gt, k, none⟩) (j - k) (n - k)) := by simp [World.cell?, h]
                clear hJ3 k0 hk3 h hR hy G
                gi_wp2
                refine wpIn_wide.2 ?_
                go_quiet (fail)
                gi_wp2
                refine ⟨⟨j, _, _, by omega, rfl, rfl, by rw [List.length_append, List.length_singleton]; omega, HJ.out _ _ _ none HJ3.out (grown_drewN W3 nq) (by simp), HP3.out.drewN nq, HZ3.out, ?_⟩, by simp [intOf]; omega⟩
                have e := HL.out
                rw [plen_step (by rw [HCL.out]; omega), HX.out] at e
                simp only [if_pos, beq_self_eq_true] at e
                rw [← HS.out] at e
                show _ = _
                rw [lenSum_snoc]
                show lenSum pre + (j - k) + _ = _
                omega
              · gi_wp2
                refine bodyPost_ret (results_none rfl _ _ _) rfl ?_
                exact ⟨⟨_, rfl⟩, .inr ⟨_, trivial, hJx3⟩⟩
          · have HS := hide ((rTo_end (pl := true) (by rw [HCL.out]; omega)).symm.trans HR.out)
            have G := World.grownBy_alloc wr (.cells #[.int .i64 k, .int .i64 j, .slice (some ⟨gt, k, none⟩) (j - k) (n - k), .int .i64 z, .bool true] 60 (0, 0)) none
            obtain ⟨fn, tmps, assign, body, hy, hR⟩ := HY.out pre ⟨k, j, some ⟨gt, k, none⟩, j - k, n - k, z, true⟩ _ (HJ.out _ _ _ none HJs.out G (by simp)) (by omega)
            simp only [encP] at hy
            gi_wp2
            refine hR.mono ?_
            rintro e W3 (⟨rfl, hJ3, hk3⟩ | ⟨rfl, hJx3⟩)
            · have k0 := (Kp.refl R wr).alloc (.cells #[.int .i64 k, .int .i64 j, .slice (some ⟨gt, k, none⟩) (j - k) (n - k), .int .i64 z, .bool true] 60 (0, 0)) hRlt
              have HP3 := hide (HP.out.kept (k0.trans hk3))
              have HJ3 := hide hJ3
              have HZ3 := hide (Nat.le_trans HZ.out (k0.trans hk3).size)
              have h := hk3.same wr.heap.size _ 60 (0, 0) (by omega) (block_new wr _)
              have pc : W3.cell? ⟨wr.heap.size, 2, none⟩ = some (.slice (some ⟨gt, k, none⟩) (j - k) (n - k)) := by simp [World.cell?, h]
              clear hJ3 k0 hk3 h hR hy G
              gi_wp2
              refine wpIn_wide.2 ?_
              go_quiet (fail)
              gi_wp2
              refine ⟨⟨j, _, _, by omega, rfl, rfl, by rw [List.length_append, List.length_singleton]; omega, HJ.out _ _ _ none HJ3.out (grown_drewN W3 nq) (by simp), HP3.out.drewN nq, HZ3.out, ?_⟩, by simp [intOf]; omega⟩
              have e := HL.out
              rw [plen_step (by rw [HCL.out]; omega), HX.out] at e
              simp only [if_pos, beq_self_eq_true] at e
              rw [← HS.out] at e
              show _ = _
              rw [lenSum_snoc]
              show lenSum pre + (j - k) + _ = _
              omega
            · gi_wp2
              refine bodyPost_ret (results_none rfl _ _ _) rfl ?_
              exact ⟨⟨_, rfl⟩, .inr ⟨_, trivial, hJx3⟩⟩
      · have hz' : (x == 0) = false := by simpa using hz
        have hz2 := hide hz
        clear hz
        gi_wp2
        gi_loopw [6] (fun i wr' => ∃ j : Nat, k + 1 ≤ j ∧ j ≤ n ∧ i = .int .i64 j ∧ wr' = wr ∧ Hid (rTo c false j = rTo c false (k + 1))) (fun i _ => n - (intOf i).toNat)
        case atStart => exact ⟨k + 1, by omega, by omega, by go_num, rfl, rfl⟩
        case round =>
          obtain ⟨j, hj1, hj2, rfl, rfl, HR⟩ := hrel
          by_cases hjn : j < n
          · have e2 : wr.cell? ⟨g, j, none⟩ = some (.int .i32 (c.getD j 0)) := by
              simp only [World.cell?, g1]; exact g2 j hjn
            have x2 : ¬ ((j : Int) < 0 ∨ (n : Int) ≤ (j : Int)) := by omega
            obtain ⟨y, HYQ⟩ : ∃ y, Hid (c.getD j 0 = y) := ⟨_, rfl⟩
            rw [HYQ.out] at e2
            by_cases hin : inRun false y = true
            · have hin' : (y == 0) = false := by simpa [inRun] using hin
              have HS := hide (rTo_step (pl := false) (by rw [HCL.out]; omega) (by rw [HYQ.out]; exact hin))
              clear hin
              gi_wp2
              exact ⟨⟨j + 1, by omega, by omega, by go_num, trivial, HS.out.symm.trans HR.out⟩, by simp [intOf]; omega⟩
            · have hin' : (y == 0) = !false := by simpa [inRun] using hin
              have HS := hide ((rTo_stop (pl := false) (by rw [HCL.out]; omega) (by rw [HYQ.out]; simpa using hin)).symm.trans HR.out)
              clear hin
              obtain ⟨u, hu⟩ : ∃ u : Nat, x = (u : Int) + 1 := ⟨(x - 1).toNat, by have h1 := HCR.out k hlt; rw [HX.out] at h1; have h2 := hz2.out; omega⟩
              subst hu
              have hut : u < tn := by have h1 := HCR.out k hlt; rw [HX.out] at h1; omega
              obtain ⟨cs2, f2, m1, m2⟩ := HP.out.mks
              obtain ⟨ad, cap, m3⟩ := m2 u hut
              have m4 : wr.cell? ⟨M, u, none⟩ = some (.slice ad (ml.getD u 0) cap) := by simp only [World.cell?, m1]; exact m3
              obtain ⟨ln, HLN⟩ : ∃ ln, Hid (ml.getD u 0 = ln) := ⟨_, rfl⟩
              rw [HLN.out] at m4
              clear m1 m2 m3
              have wx : IntKind.i32.wrap ((u : Int) + 1 - 1) = (u : Int) := by rw [IntKind.wrap_i32]; omega
              have x3 : ¬ ((u : Int) < 0 ∨ (tn : Int) ≤ (u : Int)) := by omega
              have d0 : ∀ o, (wr.alloc o).cell? ⟨B2, 0, none⟩ = some (.pointer (some ⟨R, 0, none⟩)) := fun o => by rw [World.cell?_alloc_past _ _ _ (World.block_lt_of_cell? _ _ b2)]; exact b2
              have d1 : ∀ o, (wr.alloc o).cell? ⟨R, 1, none⟩ = some (.slice (some ⟨g, 0, none⟩) n n) := fun o => by rw [World.cell?_alloc_past _ _ _ (World.block_lt_of_cell? _ _ q1)]; exact q1
              have d2 : ∀ o, (wr.alloc o).cell? ⟨R, 2, none⟩ = some (.slice (some ⟨M, 0, none⟩) tn tn) := fun o => by rw [World.cell?_alloc_past _ _ _ (World.block_lt_of_cell? _ _ q2)]; exact q2
              have d3 : ∀ o, (wr.alloc o).cell? ⟨g, k, none⟩ = some (.int .i32 ((u : Int) + 1)) := fun o => by rw [World.cell?_alloc_past _ _ _ (World.block_lt_of_cell? _ _ e1)]; exact e1
              have d4 : ∀ o, (wr.alloc o).cell? ⟨M, u, none⟩ = some (.slice ad ln cap) := fun o => by rw [World.cell?_alloc_past _ _ _ (World.block_lt_of_cell? _ _ m4)]; exact m4
              gi_wp2
              refine wpIn_wide.2 ?_
              go_region
              have G := grown_drewA wr (.cells #[.int .i64 k, .int .i64 j, .slice ad ln cap, .int .i64 z, .bool false] 60 (0, 0))
              obtain ⟨fn, tmps, assign, body, hy, hR⟩ := HY.out pre ⟨k, j, ad, ln, cap, z, false⟩ _ (HJ.out _ _ _ none HJs.out G (by simp)) (by omega)
              simp only [encP] at hy
              gi_wp2
              refine hR.mono ?_
              rintro e W3 (⟨rfl, hJ3, hk3⟩ | ⟨rfl, hJx3⟩)
              · have k0 := (Kp.refl R wr).alloc (.cells #[.int .i64 k, .int .i64 j, .slice ad ln cap, .int .i64 z, .bool false] 60 (0, 0)) hRlt
                have hk4 : Kp R (wr.alloc (.cells #[.int .i64 k, .int .i64 j, .slice ad ln cap, .int .i64 z, .bool false] 60 (0, 0))) W3 := ⟨hk3.size, hk3.same, hk3.first⟩
                have HP3 := hide (HP.out.kept (k0.trans hk4))
                have HJ3 := hide hJ3
                have HZ3 := hide (Nat.le_trans HZ.out (k0.trans hk4).size)
                have h := hk4.same wr.heap.size _ 60 (0, 0) (by omega) (block_new wr _)
                have pc : W3.cell? ⟨wr.heap.size, 2, none⟩ = some (.slice ad ln cap) := by simp [World.cell?, h]
                clear hJ3 k0 hk3 hk4 h hR hy G
                gi_wp2
                refine wpIn_wide.2 ?_
                go_quiet (fail)
                gi_wp2
                refine ⟨⟨j, _, _, by omega, rfl, rfl, by rw [List.length_append, List.length_singleton]; omega, HJ.out _ _ _ none HJ3.out (grown_drewN W3 nq) (by simp), HP3.out.drewN nq, HZ3.out, ?_⟩, by simp [intOf]; omega⟩
                have e := HL.out
                rw [plen_step (by rw [HCL.out]; omega), HX.out, if_neg (by omega), hz', ← HS.out, show ((u : Int) + 1).toNat - 1 = u by omega, HLN.out] at e
                show _ = _
                rw [lenSum_snoc]
                show lenSum pre + ln + _ = _
                omega
              · gi_wp2
                refine bodyPost_ret (results_none rfl _ _ _) rfl ?_
                exact ⟨⟨_, rfl⟩, .inr ⟨_, trivial, hJx3⟩⟩
          · have HS := hide ((rTo_end (pl := false) (by rw [HCL.out]; omega)).symm.trans HR.out)
            obtain ⟨u, hu⟩ : ∃ u : Nat, x = (u : Int) + 1 := ⟨(x - 1).toNat, by have h1 := HCR.out k hlt; rw [HX.out] at h1; have h2 := hz2.out; omega⟩
            subst hu
            have hut : u < tn := by have h1 := HCR.out k hlt; rw [HX.out] at h1; omega
            obtain ⟨cs2, f2, m1, m2⟩ := HP.out.mks
            obtain ⟨ad, cap, m3⟩ := m2 u hut
            have m4 : wr.cell? ⟨M, u, none⟩ = some (.slice ad (ml.getD u 0) cap) := by simp only [World.cell?, m1]; exact m3
            obtain ⟨ln, HLN⟩ : ∃ ln, Hid (ml.getD u 0 = ln) := ⟨_, rfl⟩
            rw [HLN.out] at m4
            clear m1 m2 m3
            have wx : IntKind.i32.wrap ((u : Int) + 1 - 1) = (u : Int) := by rw [IntKind.wrap_i32]; omega
            have x3 : ¬ ((u : Int) < 0 ∨ (tn : Int) ≤ (u : Int)) := by omega
            have d0 : ∀ o, (wr.alloc o).cell? ⟨B2, 0, none⟩ = some (.pointer (some ⟨R, 0, none⟩)) := fun o => by rw [World.cell?_alloc_past _ _ _ (World.block_lt_of_cell? _ _ b2)]; exact b2
            have d1 : ∀ o, (wr.alloc o).cell? ⟨R, 1, none⟩ = some (.slice (some ⟨g, 0, none⟩) n n) := fun o => by rw [World.cell?_alloc_past _ _ _ (World.block_lt_of_cell? _ _ q1)]; exact q1
            have d2 : ∀ o, (wr.alloc o).cell? ⟨R, 2, none⟩ = some (.slice (some ⟨M, 0, none⟩) tn tn) := fun o => by rw [World.cell?_alloc_past _ _ _ (World.block_lt_of_cell? _ _ q2)]; exact q2
            have d3 : ∀ o, (wr.alloc o).cell? ⟨g, k, none⟩ = some (.int .i32 ((u : Int) + 1)) := fun o => by rw [World.cell?_alloc_past _ _ _ (World.block_lt_of_cell? _ _ e1)]; exact e1
            have d4 : ∀ o, (wr.alloc o).cell? ⟨M, u, none⟩ = some (.slice ad ln cap) := fun o => by rw [World.cell?_alloc_past _ _ _ (World.block_lt_of_cell? _ _ m4)]; exact m4
            gi_wp2
            refine wpIn_wide.2 ?_
            go_region
            have G := grown_drewA wr (.cells #[.int .i64 k, .int .i64 j, .slice ad ln cap, .int .i64 z, .bool false] 60 (0, 0))
            obtain ⟨fn, tmps, assign, body, hy, hR⟩ := HY.out pre ⟨k, j, ad, ln, cap, z, false⟩ _ (HJ.out _ _ _ none HJs.out G (by simp)) (by omega)
            simp only [encP] at hy
            gi_wp2
            refine hR.mono ?_
            rintro e W3 (⟨rfl, hJ3, hk3⟩ | ⟨rfl, hJx3⟩)
            · have k0 := (Kp.refl R wr).alloc (.cells #[.int .i64 k, .int .i64 j, .slice ad ln cap, .int .i64 z, .bool false] 60 (0, 0)) hRlt
              have hk4 : Kp R (wr.alloc (.cells #[.int .i64 k, .int .i64 j, .slice ad ln cap, .int .i64 z, .bool false] 60 (0, 0))) W3 := ⟨hk3.size, hk3.same, hk3.first⟩
              have HP3 := hide (HP.out.kept (k0.trans hk4))
              have HJ3 := hide hJ3
              have HZ3 := hide (Nat.le_trans HZ.out (k0.trans hk4).size)
              have h := hk4.same wr.heap.size _ 60 (0, 0) (by omega) (block_new wr _)
              have pc : W3.cell? ⟨wr.heap.size, 2, none⟩ = some (.slice ad ln cap) := by simp [World.cell?, h]
              clear hJ3 k0 hk3 hk4 h hR hy G
              gi_wp2
              refine wpIn_wide.2 ?_
              go_quiet (fail)
              gi_wp2
              refine ⟨⟨j, _, _, by omega, rfl, rfl, by rw [List.length_append, List.length_singleton]; omega, HJ.out _ _ _ none HJ3.out (grown_drewN W3 nq) (by simp), HP3.out.drewN nq, HZ3.out, ?_⟩, by simp [intOf]; omega⟩
              have e := HL.out
              rw [plen_step (by rw [HCL.out]; omega), HX.out, if_neg (by omega), hz', ← HS.out, show ((u : Int) + 1).toNat - 1 = u by omega, HLN.out] at e
              show _ = _
              rw [lenSum_snoc]
              show lenSum pre + ln + _ = _
              omega
            · gi_wp2
              refine bodyPost_ret (results_none rfl _ _ _) rfl ?_
              exact ⟨⟨_, rfl⟩, .inr ⟨_, trivial, hJx3⟩⟩
    · gi_wp2
      go_end0
      exact ⟨⟨_, rfl⟩, .inl ⟨pre, by have := HL.out; rw [plen_end (by rw [HCL.out]; omega)] at this; omega, HJs.out⟩⟩
end Go.Proofs.Qxb6616271a
