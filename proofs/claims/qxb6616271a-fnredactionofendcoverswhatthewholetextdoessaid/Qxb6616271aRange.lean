/-
  The loop over the pieces: the law of the range over a function, for this loop.
-/
import Derived.Test.Qxb6616271aRedact
namespace Go.Proofs.Qxb6616271a
set_option linter.unusedVariables false
open Go.RowKit
theorem putObj_other {w : World} {l k : Nat} {o : Obj} (h : k ≠ l) : (w.putObj l o).heap[k]? = w.heap[k]? := World.putObj_heap_other (fun e => h (by omega))
theorem Kp.put {R : Nat} {W : World} {l : Nat} {o o' : Obj} (hl : W.heap[l]? = some o) (ho : o.isCells = false) (hR : R ≠ l) : Kp R W (W.putObj l o') := by
  refine ⟨(grownBy_putObj' W l o').size, fun k cs t f hk hh => ?_, fun q hq => World.cell?_of_block (a := ⟨R, q, none⟩) (putObj_other hR)⟩
  by_cases e : k = l
  · subst e
    rw [hl] at hh
    cases hh
    cases ho
  · rw [putObj_other e]; exact hh
def cellsP (x : Piece) : Obj := .cells #[.int .i64 x.a, .int .i64 x.b, .slice x.ad x.len x.cap, .int .i64 x.sa, .bool x.pl] 60 (0, 0)
theorem rf_box {assign body : Code} {Q : Exit → Act → World → Prop} {a : Act} {w : World} {B2 R : Nat} {S : List Piece → Prop} {N : Nat}
    (hg : a.eval (.tmp 136) = .func (.func 33) #[] #[.pointer (some ⟨B2, 0, none⟩)])
    (hseq : SeqStopsK Fence.wide 2 Try.prog 33 #[.pointer (some ⟨B2, 0, none⟩)] (fun x => #[encP x]) (Kp R) S (fun _ => True) N w) (hR : R < w.heap.size)
    (I : List Piece → World → Prop) (hI : OwnFrom w.heap.size I) (hIs : ∀ s W, I s W → w.heap.size ≤ W.heap.size) (h0 : I [] w)
    (hassign : ∀ (l : Nat) (pre : List Piece) (x : Piece) (W : World) (K : Act → World → Prop), I pre W → K { tmps := (a.tmps.setIfInBounds 137 (encP x)).setIfInBounds 19 (.pointer (some ⟨W.heap.size, 0, none⟩)), defers := [] } (W.alloc (cellsP x)) →
      assign.wpIn (Fence.wide.inRound l) 1 Try.prog (Exit.then K (fun _ _ _ => False)) { tmps := a.tmps.setIfInBounds 137 (encP x), defers := [] } W)
    (hbody : ∀ (l : Nat) (pre : List Piece) (x : Piece) (B : Nat) (W : World), w.heap.size ≤ B → W.heap[B]? = some (cellsP x) → I pre W → pre.length < N →
      body.wpIn (Fence.wide.inRound l) 1 Try.prog (ownPostG w.heap.size (Kp R) I (fun _ _ _ => False) (pre ++ [x]) W) { tmps := (a.tmps.setIfInBounds 137 (encP x)).setIfInBounds 19 (.pointer (some ⟨B, 0, none⟩)), defers := [] } W)
    (hdone : ∀ (D : Nat) (xs : List Piece) (W : World), w.heap.size ≤ D → S xs → I xs W → W.heap[D]? = some (.deferred (some [])) → Q .normal { a with defers := { target := .collected D, args := #[] } :: a.defers } W) :
    (Code.rangeFunc (.tmp 136) #[137] assign body).wp Try.prog Q a w := by
  refine wpIn_wide.1 (wpIn_rangeFunc_ownH (n := 3) rfl (by omega) (gf := 33) (lb := #[.pointer (some ⟨B2, 0, none⟩)]) hg trivial (enters_of Try.func33 (by kernel_rfl) rfl) hseq (fun h k => h.trans k)
    (fun W l o o' hl ho hc _ => Kp.put ho hc (by omega)) (Below.refl _ _) (fun _ => rfl) I (fun _ _ _ => False) hI (fun _ _ _ _ _ hs _ _ => hs) h0
    (fun x a' W => ∃ B, a' = { tmps := (a.tmps.setIfInBounds 137 (encP x)).setIfInBounds 19 (.pointer (some ⟨B, 0, none⟩)), defers := [] } ∧ w.heap.size ≤ B ∧ W.heap[B]? = some (cellsP x)) ?_ ?_ ?_ ?_ ?_)
  · intro x a' _ W W' row hs hg hr
    obtain ⟨B, e1, e2, e3⟩ := hs
    refine ⟨B, e1, e2, (hg.block B (lt_of_block e3) (fun e => ?_)).trans e3⟩
    obtain ⟨_, o, ho, hc⟩ := hr B e.symm
    rw [e3] at ho
    cases ho
    cases hc
  · intro l pre x W K hIW hK
    have e : (#[137].zip #[encP x]).foldl (fun t (p, v) => t.setIfInBounds p v) a.tmps = a.tmps.setIfInBounds 137 (encP x) := by simp
    rw [e]
    refine hassign l pre x W K hIW (hK _ _ (KeepsFrom.of_grownBy (World.grownBy_alloc W _ none) (fun j e => by cases e)) ((Kp.refl R W).alloc _ (Nat.lt_of_lt_of_le hR (hIs _ _ hIW))) (hI _ _ _ none hIW (World.grownBy_alloc W _ none) (fun r e => by cases e)) ⟨W.heap.size, rfl, hIs _ _ hIW, block_new W _⟩)
  · rintro l pre x a' W hl hr hIW ⟨B, rfl, hB, hc⟩ hlt
    exact hbody l pre x B W hB hc hIW hlt
  · exact hdone
  · rintro D c pre W _ _ h _
    exact h.elim
/-! ### What covers is a text's number -/
def Bnd (n : Nat) (J : Int) (C : Option (List Int)) : Prop := ∀ p, p < n → 0 ≤ at0 C p ∧ at0 C p ≤ J
theorem Bnd.cover {n : Nat} {J v : Int} {C : Option (List Int)} (h : Bnd n J C) (hs : Sized n C) (a b : Nat) (h0 : 0 ≤ v) (h1 : v ≤ J) : Bnd n J (coverM n C a b v) := by
  intro p hp
  rw [at0_cover hs _ _ _ _ hp]
  split
  · exact ⟨h0, h1⟩
  · exact h p hp
theorem Bnd.occF {X t : List UInt8} {J v : Int} (h0 : 0 ≤ v) (h1 : v ≤ J) : ∀ (n k : Nat) {C : Option (List Int)}, Bnd X.length J C → Sized X.length C → Bnd X.length J (Qxb6616271a.occF X t v n k C)
  | 0, _, _, h, _ => h
  | n + 1, k, C, h, hs => by
    rw [Qxb6616271a.occF]
    split
    · exact h
    · exact Bnd.occF h0 h1 n _ (h.cover hs _ _ h0 h1) (hs.cover _ _ _)
theorem Bnd.step {cut : Bool} {X t : List UInt8} {i : Nat} {J : Int} {C : Option (List Int)} (h : Bnd X.length J C) (hs : Sized X.length C) (h1 : (i : Int) + 1 ≤ J) : Bnd X.length J (stepM cut X i t C) := by
  unfold stepM occM
  split
  · exact (Bnd.occF (by omega) h1 _ _ h hs).cover (Sized.occF _ _ hs) _ _ (by omega) h1
  · exact Bnd.occF (by omega) h1 _ _ h hs
theorem Bnd.red {cut : Bool} {X : List UInt8} {J : Int} : ∀ (ts : List (List UInt8)) (i : Nat) {C : Option (List Int)}, Bnd X.length J C → Sized X.length C → (i : Int) + ts.length ≤ J → Bnd X.length J (redM cut X i ts C)
  | [], _, _, h, _, _ => h
  | t :: ts, i, C, h, hs, hJ => by
    rw [redM]
    rw [List.length_cons] at hJ
    exact Bnd.red ts (i + 1) (h.step hs (by omega)) hs.step (by omega)
/-! ### What the iterator reads -/
theorem own_cells {w : World} {base n cap : Nat} {e : TypeId} {g : Nat} {xs : List Value} (h : w.ownsRow base e 1 (.slice (some ⟨g, 0, none⟩) n cap) n xs) : ∃ cs f, w.heap[g]? = some (.cells cs e f) ∧ ∀ j, j < n → cs[j]? = xs[j]? := by
  rcases h.2 with ⟨h', _⟩ | ⟨g', cap', cur, h', _, hg, _⟩
  · simp at h'
  · simp only [Value.slice.injEq, Option.some.injEq, Addr.mk.injEq] at h'
    obtain ⟨⟨rfl, _, _⟩, _, _⟩ := h'
    refine ⟨_, _, hg, fun j hj => ?_⟩
    have := h.cellAt j (by omega)
    simp only [World.cell?, hg] at this
    exact this
theorem PInv.below {R B2 gt g M n tn : Nat} {c : List Int} {ml : List Nat} {W W' : World} (h : PInv R B2 gt g M n tn c ml W) (hb : Below W.heap.size W W') : PInv R B2 gt g M n tn c ml W' := by
  obtain ⟨cs, f, h1, h2⟩ := h.cov
  obtain ⟨cs', f', h3, h4⟩ := h.mks
  have hR : R < W.heap.size := World.block_lt_of_cell? _ _ h.c0
  exact ⟨(hb.block _ (lt_of_block h.b2)).trans h.b2, h.b2R, (hb.cell (p := ⟨R, 0, none⟩) hR).trans h.c0, (hb.cell (p := ⟨R, 1, none⟩) hR).trans h.c1, (hb.cell (p := ⟨R, 2, none⟩) hR).trans h.c2, h.gR, h.MR,
    ⟨cs, f, (hb.block _ (lt_of_block h1)).trans h1, h2⟩, ⟨cs', f', (hb.block _ (lt_of_block h3)).trans h3, h4⟩⟩
theorem seq_pieces {R B2 gt g M n tn : Nat} {c : List Int} {ml : List Nat} {W : World} (h : PInv R B2 gt g M n tn c ml W) (hn : n ≤ 1048576) (hc : c.length = n) (hcr : ∀ j, j < n → 0 ≤ c.getD j 0 ∧ c.getD j 0 ≤ tn) (htn : tn ≤ 65536) :
    SeqStopsK Fence.wide 2 Try.prog 33 #[.pointer (some ⟨B2, 0, none⟩)] (fun x => #[encP x]) (Kp R) (fun xs => lenSum xs = plen c ml 0) (fun _ => True) n W := by
  intro l J Jx W1 hW hJ hJx hY h0
  exact pieces_in 1 l R B2 gt g M n tn n c ml hn hc hcr htn (Nat.le_refl _) J Jx W1 hJ hY h0 (h.below hW)
/-! ### What the loop keeps -/
def IR (W3 : World) (R : Nat) (v vc vm : Value) (pre : List Piece) (W : World) : Prop :=
  W.heap[R]? = some (.cells #[v, vc, vm, .int .i64 (IntKind.i64.wrap (lenSum pre : Nat))] 52 (0, 0)) ∧ W3.grownBy W (some R)
theorem grown_trans {A B C : World} {R : Nat} {row : Option Nat} (h : A.grownBy B (some R)) (k : B.grownBy C row) (hr : ∀ r, row = some r → A.heap.size ≤ r ∨ r = R) : A.grownBy C (some R) :=
  ⟨k.os.trans h.os, k.tape.trans h.tape, k.output.trans h.output, Nat.le_trans h.size k.size, fun i hi hne => by
    rw [k.block i (Nat.lt_of_lt_of_le hi h.size) (fun e => by rcases hr i e.symm with h' | h' <;> simp_all <;> omega)]
    exact h.block i hi hne⟩
theorem IR.own {W3 : World} {R : Nat} {v vc vm : Value} (hR : R < W3.heap.size) : OwnFrom W3.heap.size (IR W3 R v vc vm) := by
  intro s W W' row hs hg hr
  refine ⟨?_, grown_trans hs.2 hg (fun r e => .inl (hr r e).1)⟩
  rw [hg.block R (lt_of_block hs.1) (fun e => by have := (hr R e.symm).1; omega)]
  exact hs.1
theorem wrap_wrap (a b : Int) : IntKind.i64.wrap (IntKind.i64.wrap a + b) = IntKind.i64.wrap (a + b) := by
  have e : ∀ r b c : Int, r - c + b + c = r + b := by intros; omega
  rw [IntKind.wrap_i64, IntKind.wrap_i64, IntKind.wrap_i64, e, Int.emod_add_emod, show a + 9223372036854775808 + b = a + b + 9223372036854775808 by omega]
theorem IR.next {W3 : World} {R : Nat} {v vc vm : Value} {pre : List Piece} {W : World} (hR : R < W3.heap.size) (h : IR W3 R v vc vm pre W) (x : Piece) (z : Int) (hz : z = IntKind.i64.wrap (IntKind.i64.wrap (lenSum pre : Nat) + x.len)) :
    IR W3 R v vc vm (pre ++ [x]) (W.setCell ⟨R, 3, none⟩ (.int .i64 z)) ∧ Kp R W (W.setCell ⟨R, 3, none⟩ (.int .i64 z)) ∧ KeepsFrom W3.heap.size W (W.setCell ⟨R, 3, none⟩ (.int .i64 z)) := by
  have hb : ∀ k, k ≠ R → (W.setCell ⟨R, 3, none⟩ (.int .i64 z)).heap[k]? = W.heap[k]? := fun k hk => Below.heap_setCell _ _ _ _ hk
  have hs : (W.setCell ⟨R, 3, none⟩ (.int .i64 z)).heap.size = W.heap.size := by simp
  have hg : W.grownBy (W.setCell ⟨R, 3, none⟩ (.int .i64 z)) (some R) := ⟨rfl, rfl, rfl, by omega, fun k _ hk => hb k (fun e => hk (by rw [e]))⟩
  refine ⟨⟨?_, grown_trans h.2 hg (fun r e => .inr (by simpa using e.symm))⟩, ⟨by omega, fun k cs t f hk hh => by rw [hb k hk]; exact hh, fun o ho => ?_⟩, KeepsFrom.of_grownBy hg (fun j e => by cases e; exact hR)⟩
  · have e := heap_set h.1 3 (.int .i64 z)
    rw [e]
    have : z = IntKind.i64.wrap (lenSum (pre ++ [x]) : Nat) := by
      rw [hz, lenSum_snoc, wrap_wrap, Int.natCast_add]
    rw [← this]
    rfl
  · have e := heap_set h.1 3 (.int .i64 z)
    simp only [World.cell?, e, h.1]
    match o, ho with
    | 0, _ => rfl
    | 1, _ => rfl
    | 2, _ => rfl
theorem red_done {w W3 W : World} {g M n tn D : Nat} {v : Value} {ln : Int} {c : List Int} {xs : List Value} {ps : List Piece} {ml : List Nat} (X : List UInt8) (h : Sm w W3 g M n tn v ln c xs) (hc : c.length = n)
    (hI : IR W3 (w.heap.size + 1) v (.slice (some ⟨g, 0, none⟩) n n) (.slice (some ⟨M, 0, none⟩) tn tn) ps W) (hS : lenSum ps = plen c ml 0) (hD : W3.heap.size ≤ D) (o : Obj) :
    RedDone (W.putObj D o) (w.heap.size + 1) X (some c) ml ∧ Below w.heap.size w (W.putObj D o) := by
  have hs := h.size
  obtain ⟨cs, f, h1, h2⟩ := own_cells h.cov
  have hgR : g ≠ w.heap.size + 1 := by
    intro e
    exact ownBlock_tag h.cov h.red (by decide) (by rw [e]; rfl)
  have hb : ∀ k, k < W3.heap.size → k ≠ w.heap.size + 1 → (W.putObj D o).heap[k]? = W3.heap[k]? := fun k hk hne => by
    rw [putObj_other (by omega)]
    exact hI.2.block k hk (by simpa using hne)
  refine ⟨⟨v, .slice (some ⟨g, 0, none⟩) n n, .slice (some ⟨M, 0, none⟩) tn tn, ?_, g, 0, n, by rw [hc], fun j hj => ?_⟩, ?_⟩
  · rw [putObj_other (by omega), hI.1, hS]
    rfl
  · rw [Nat.zero_add, World.cell?_of_block (a := ⟨g, j, none⟩) (hb g (lt_of_block h1) hgR), h.cov.cellAt j (by omega)]
    simp [covV, List.getD, List.getElem?_eq_getElem hj]
  · have hg := grownBy_putObj' W D o
    refine h.below.trans ⟨hg.os.trans hI.2.os, hg.tape.trans hI.2.tape, hg.output.trans hI.2.output, Nat.le_trans hI.2.size hg.size, fun k hk => hb k (by omega) (by omega)⟩
end Go.Proofs.Qxb6616271a
