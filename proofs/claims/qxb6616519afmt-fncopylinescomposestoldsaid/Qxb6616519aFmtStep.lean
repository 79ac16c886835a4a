/-
  The closure in 'CopyLines': one line.
-/
import Derived.Test.Qxb6616519aFmtWrite
namespace Go.Proofs.Qxb6616519aFmt
set_option linter.unusedVariables false
open Go.RowKit
/-- A slice of ints that lies below block B and reads as ev. -/
def EvAt (B : Nat) (v : Value) (ev : List Int) (w : World) : Prop :=
  ∃ a cap, v = .slice a ev.length cap ∧ ev.length ≤ cap ∧ cap ≤ maxLen ∧ ∀ j, j < ev.length → ∃ E o, a = some ⟨E, o, none⟩ ∧ E < B ∧ w.cell? ⟨E, o + j, none⟩ = some (.int .i64 (ev.getD j 0))
theorem EvAt.below {B : Nat} {v : Value} {ev : List Int} {w w' : World} (h : EvAt B v ev w) (hb : Below B w w') : EvAt B v ev w' := by
  obtain ⟨a, cap, h1, h2, h3, h4⟩ := h
  refine ⟨a, cap, h1, h2, h3, fun j hj => ?_⟩
  obtain ⟨E, o, e1, e2, e3⟩ := h4 j hj
  exact ⟨E, o, e1, e2, by rw [hb.cell (p := ⟨E, o + j, none⟩) e2]; exact e3⟩
/-- What the closure works on: the lines met, the events left, what is written. -/
structure CopyAt (B Nn Ne Nw b : Nat) (g : Option Nat) (n : Nat) (ev : List Int) (X : List UInt8) (w : World) : Prop where
  cn : w.heap[Nn]? = some (.cells #[.int .i64 n] 3 (0, 0))
  ce : ∃ v, w.heap[Ne]? = some (.cells #[v] 22 (0, 0)) ∧ EvAt B v ev w
  cw : w.heap[Nw]? = some (.cells #[.iface 38 (.pointer (some ⟨b, 0, none⟩))] 43 (0, 0))
  buf : BufAt b g X w
  bn : B ≤ Nn
  be : B ≤ Ne
  bw : B ≤ Nw
  bb : B ≤ b
  bg : ∀ q, g = some q → B ≤ q
/-- One line. -/
def stepC (n : Nat) (Y : List UInt8) (s : List Int × List UInt8) : List Int × List UInt8 :=
  match s.1 with
  | [] => s
  | e :: es => if e = (n : Int) then (es, s.2 ++ Y) else s
theorem CopyAt.tags {B Nn Ne Nw b : Nat} {g : Option Nat} {n : Nat} {ev : List Int} {X : List UInt8} {w : World} (h : CopyAt B Nn Ne Nw b g n ev X w) :
    Nn ≠ Ne ∧ Nn ≠ Nw ∧ Nn ≠ b ∧ Ne ≠ Nw ∧ Ne ≠ b ∧ Nw ≠ b ∧ ∀ q, g = some q → q ≠ Nn ∧ q ≠ Ne ∧ q ≠ Nw := by
  obtain ⟨v, he, _⟩ := h.ce
  have hn := h.cn
  have hw := h.cw
  obtain ⟨lr, hb⟩ := h.buf
  have hb' : ∃ cs, w.heap[b]? = some (.cells cs 34 (0, 0)) := by
    rcases hb with ⟨_, _, hb⟩ | ⟨q, cap, cur, _, _, hb, _⟩
    · exact ⟨_, hb⟩
    · exact ⟨_, hb⟩
  obtain ⟨cs, hb'⟩ := hb'
  refine ⟨?_, ?_, ?_, ?_, ?_, ?_, fun q hq => ?_⟩
  · rintro rfl; rw [hn] at he; simp at he
  · rintro rfl; rw [hn] at hw; simp at hw
  · rintro rfl; rw [hn] at hb'; simp at hb'
  · rintro rfl; rw [he] at hw; simp at hw
  · rintro rfl; rw [he] at hb'; simp at hb'
  · rintro rfl; rw [hw] at hb'; simp at hb'
  · subst hq
    rcases hb with ⟨h', _⟩ | ⟨q', cap, cur, e, _, _, hq', hcs, hlc, _, _, hx⟩
    · cases h'
    · cases e
      refine ⟨?_, ?_, ?_⟩
      · rintro rfl
        rw [hn] at hq'; simp at hq'
      · rintro rfl; rw [he] at hq'; simp at hq'
      · rintro rfl; rw [hw] at hq'; simp at hq'
theorem BufAt.kept {b : Nat} {g : Option Nat} {X : List UInt8} {w w' : World} (h : BufAt b g X w) (hb : w'.heap[b]? = w.heap[b]?) (hg : ∀ q, g = some q → w'.heap[q]? = w.heap[q]?) : BufAt b g X w' := by
  obtain ⟨lr, ⟨e1, e2, e3⟩ | ⟨q, cap, cur, e1, e2, e3, e4, e5⟩⟩ := h
  · exact ⟨lr, .inl ⟨e1, e2, hb.trans e3⟩⟩
  · exact ⟨lr, .inr ⟨q, cap, cur, e1, e2, hb.trans e3, (hg q e1).trans e4, e5⟩⟩
theorem CopyAt.count {B Nn Ne Nw b : Nat} {g : Option Nat} {n : Nat} {ev : List Int} {X : List UInt8} {w : World} (h : CopyAt B Nn Ne Nw b g n ev X w) (k : Nat) (z : Int) (hz : z = ((n + 1 : Nat) : Int)) :
    CopyAt B Nn Ne Nw b g (n + 1) ev X ((w.setCell ⟨Nn, 0, none⟩ (.int .i64 z)).drewN k) ∧ Kept [Nn, Ne, b] w ((w.setCell ⟨Nn, 0, none⟩ (.int .i64 z)).drewN k) := by
  subst hz
  obtain ⟨t1, t2, t3, t4, t5, t6, t7⟩ := h.tags
  obtain ⟨v, he, hE⟩ := h.ce
  have hb : ∀ j, j ≠ Nn → ((w.setCell ⟨Nn, 0, none⟩ (.int .i64 ((n + 1 : Nat) : Int))).drewN k).heap[j]? = w.heap[j]? := fun j hj => Below.heap_setCell _ _ _ _ hj
  have hk : Kept [Nn, Ne, b] w ((w.setCell ⟨Nn, 0, none⟩ (.int .i64 ((n + 1 : Nat) : Int))).drewN k) := ((Kept.refl _ w).setCell ⟨Nn, 0, none⟩ (by simp) _).drewN k
  have hBw : B ≤ w.heap.size := Nat.le_trans h.bn (Nat.le_of_lt (lt_of_block h.cn))
  refine ⟨⟨?_, ⟨v, (hb _ t1.symm).trans he, hE.below (hk.below B hBw (fun x hx => by simp at hx; rcases hx with rfl | rfl | rfl; exact h.bn; exact h.be; exact h.bb))⟩, (hb _ t2.symm).trans h.cw, h.buf.kept (hb _ t3.symm) (fun q hq => hb _ (t7 q hq).1), h.bn, h.be, h.bw, h.bb, h.bg⟩, hk⟩
  have := heap_set h.cn 0 (.int .i64 ((n + 1 : Nat) : Int))
  show (w.setCell ⟨Nn, 0, none⟩ (.int .i64 ((n + 1 : Nat) : Int))).heap[Nn]? = _
  simpa using this
theorem CopyAt.next {B Nn Ne Nw b cp : Nat} {a : Option Addr} {g : Option Nat} {n : Nat} {e : Int} {es : List Int} {X : List UInt8} {w : World} (h : CopyAt B Nn Ne Nw b g n (e :: es) X w)
    (he : w.heap[Ne]? = some (.cells #[.slice a (es.length + 1) cp] 22 (0, 0))) (hp : es.length + 1 ≤ cp) (hcp : cp ≤ maxLen) (E o : Nat) (ha : a = some ⟨E, o, none⟩) (hE : ∀ j, j < es.length + 1 → E < B ∧ w.cell? ⟨E, o + j, none⟩ = some (.int .i64 ((e :: es).getD j 0)))
    (ad : Option Addr) (had : (if cp = 1 then some (⟨E, o, none⟩ : Addr) else some ⟨E, o + 1, none⟩) = ad) :
    CopyAt B Nn Ne Nw b g n es X (w.setCell ⟨Ne, 0, none⟩ (.slice ad es.length (cp - 1))) ∧ Kept [Nn, Ne, b] w (w.setCell ⟨Ne, 0, none⟩ (.slice ad es.length (cp - 1))) := by
  obtain ⟨t1, t2, t3, t4, t5, t6, t7⟩ := h.tags
  have hb : ∀ j, j ≠ Ne → (w.setCell ⟨Ne, 0, none⟩ (.slice ad es.length (cp - 1))).heap[j]? = w.heap[j]? := fun j hj => Below.heap_setCell _ _ _ _ hj
  have hk : Kept [Nn, Ne, b] w (w.setCell ⟨Ne, 0, none⟩ (.slice ad es.length (cp - 1))) := (Kept.refl _ w).setCell ⟨Ne, 0, none⟩ (by simp) _
  refine ⟨⟨(hb _ t1).trans h.cn, ⟨.slice ad es.length (cp - 1), ?_, ad, cp - 1, rfl, by omega, by omega, fun j hj => ?_⟩, (hb _ t4.symm).trans h.cw, h.buf.kept (hb _ t5.symm) (fun q hq => hb _ (t7 q hq).2.1), h.bn, h.be, h.bw, h.bb, h.bg⟩, hk⟩
  · have := heap_set he 0 (.slice ad es.length (cp - 1))
    simpa using this
  · obtain ⟨h1, h2⟩ := hE (j + 1) (by omega)
    refine ⟨E, o + 1, ?_, h1, ?_⟩
    · rw [← had, if_neg (by omega)]
    · rw [World.cell?_of_block (a := ⟨E, o + 1 + j, none⟩) (hb E (by have := h.be; omega)), show o + 1 + j = o + (j + 1) by omega, h2]
      simp
theorem Tryf.nilWrite (a : Addr) (w : World) : (nilAhead 198 38 (.pointer (some a)) "Write").run Tryf.prog w = .ok (some false) w := by kernel_rfl
theorem Tryf.methodWrite (a : Addr) (w : World) : (method 198 38 (.pointer (some a)) "Write").run Tryf.prog w = .ok (45, .pointer (some a)) w := by kernel_rfl
set_option maxHeartbeats 4000000 in
set_option maxRecDepth 100000 in
theorem step_any (B Nn Ne Nw b n len cap : Nat) (g : Option Nat) (ev : List Int) (X Y : List UInt8) (ad : Addr) (w : World) (h : CopyAt B Nn Ne Nw b g n ev X w) (hn : n ≤ 1073741824) (hlen : Y.length = len) (h1 : 1 ≤ len) (hs : ad.spot = none) (hab : ad.block ≠ b) (han : ad.block ≠ Nn) (hae : ad.block ≠ Ne)
    (hY : BytesAt w ad.block ad.off Y) (hlim : X.length + len ≤ 1073741824) (hev : ev.length ≤ 1073741824) :
    Calls Tryf.prog 14 #[.slice (some ad) len cap, .pointer (some ⟨Nn, 0, none⟩), .pointer (some ⟨Ne, 0, none⟩), .pointer (some ⟨Nw, 0, none⟩)] w fun e w' => e = .returned .nilIface ∧
      ∃ g', CopyAt B Nn Ne Nw b g' (n + 1) (stepC n Y (ev, X)).1 (stepC n Y (ev, X)).2 w' ∧ (g' = g ∨ ∃ q, g' = some q ∧ w.heap.size ≤ q) ∧ Kept (Nn :: Ne :: b :: g.toList) w w' := by
  have c1 : w.cell? ⟨Nn, 0, none⟩ = some (.int .i64 n) := by rw [cell_at h.cn]; rfl
  have f1 := frozen_at h.cn 0
  obtain ⟨v, he, hE⟩ := h.ce
  obtain ⟨t1, t2, t3, t4, t5, t6, t7⟩ := h.tags
  have c2 : ∀ z, (w.setCell ⟨Nn, 0, none⟩ z).cell? ⟨Ne, 0, none⟩ = some v := fun z => by rw [World.cell?_of_block (a := ⟨Ne, 0, none⟩) (Below.heap_setCell _ _ _ _ t1.symm), cell_at he]; rfl
  have CT := hide (fun k z hz => h.count k z hz)
  have HC := hide h
  cases ev with
  | nil =>
    obtain ⟨a, cp, rfl, _, _, _⟩ := hE
    clear h he
    go_enter Tryf.func14, Tryf.ntmps14
    go_wp2_with fail
    go_quiet (fail)
    go_wp2
    go_ret
    have hh := fun k => CT.out k ((n : Int) + 1) (by omega)
    exact ⟨rfl, g, (hh _).1, .inl rfl, (hh _).2.mono (fun x hx => by simp at hx ⊢; rcases hx with rfl | rfl | rfl <;> simp)⟩
  | cons e es =>
    obtain ⟨a, cp, rfl, hp, hcp, hcells⟩ := hE
    obtain ⟨E, o, rfl, hEB, hc0⟩ := hcells 0 (by simp)
    have hbn := h.bn
    have hbe := h.be
    have c3 : ∀ z, (w.setCell ⟨Nn, 0, none⟩ z).cell? ⟨E, o, none⟩ = some (.int .i64 e) := fun z => by
      rw [World.cell?_of_block (a := ⟨E, o, none⟩) (Below.heap_setCell _ _ _ _ (show E ≠ Nn by omega))]
      simpa using hc0
    have HE := hide he
    have HCL := hide hcells
    have hlen0 : ((es.length : Int) + 1 == 0) = false := by simp; omega
    have hwn : IntKind.i64.wrap (n : Int) = n := by rw [IntKind.wrap_i64]; omega
    simp only [List.length_cons] at c2 HE HCL hp hev
    clear he hcells hc0
    by_cases hen : e = (n : Int)
    · subst hen
      have hnn : ((n : Int) != (n : Int)) = false := by simp
      obtain ⟨ad2, had2⟩ : ∃ ad2, (if cp = 1 then some (⟨E, o, none⟩ : Addr) else some ⟨E, o + 1, none⟩) = ad2 := ⟨_, rfl⟩
      have hct := CT.out 0 ((n : Int) + 1) (by omega)
      have NX := hide (fun k => (CT.out k ((n : Int) + 1) (by omega)).1.next (cp := cp) (a := some ⟨E, o, none⟩) (by rw [show ((w.setCell ⟨Nn, 0, none⟩ (.int .i64 ((n : Int) + 1))).drewN k).heap[Ne]? = w.heap[Ne]? from Below.heap_setCell _ _ _ _ t1.symm]; exact HE.out) hp hcp E o rfl (fun j hj => by
        obtain ⟨E', o', e1, e2, e3⟩ := HCL.out j (by simpa using hj)
        cases e1
        refine ⟨e2, ?_⟩
        rw [World.cell?_of_block (a := ⟨E, o + j, none⟩) (show ((w.setCell ⟨Nn, 0, none⟩ (.int .i64 ((n : Int) + 1))).drewN k).heap[E]? = w.heap[E]? from Below.heap_setCell _ _ _ _ (show E ≠ Nn by omega))]
        exact e3) ad2 had2)
      have NK := hide (fun k => (CT.out k ((n : Int) + 1) (by omega)).2)
      have hcp' : cp ≤ 9223372036854775807 := by unfold maxLen at hcp; omega
      have f2 : (w.setCell ⟨Nn, 0, none⟩ (.int .i64 ((n : Int) + 1))).frozen? ⟨Ne, 0, none⟩ = false := by
        rw [World.frozen?_of_block (a := ⟨Ne, 0, none⟩) (Below.heap_setCell _ _ _ _ t1.symm)]; exact frozen_at HE.out 0
      have c4 : ∀ k z, (((w.setCell ⟨Nn, 0, none⟩ (.int .i64 ((n : Int) + 1))).drewN k).setCell ⟨Ne, 0, none⟩ z).cell? ⟨Nw, 0, none⟩ = some (.iface 38 (.pointer (some ⟨b, 0, none⟩))) := fun k z => by
        rw [World.cell?_of_block (a := ⟨Nw, 0, none⟩) (Below.heap_setCell _ _ _ _ t4.symm), World.cell?_of_block (a := ⟨Nw, 0, none⟩) (show ((w.setCell ⟨Nn, 0, none⟩ (.int .i64 ((n : Int) + 1))).drewN k).heap[Nw]? = w.heap[Nw]? from Below.heap_setCell _ _ _ _ t2.symm), cell_at HC.out.cw]; rfl
      have HY := hide hY
      have WR := hide (fun W hB hY => write_any b len cap g X Y ad W hB hlen h1 hs hab hY hlim)
      have hmw := Tryf.methodWrite
      have hnw := Tryf.nilWrite
      clear h hct hY hcp
      go_enter Tryf.func14, Tryf.ntmps14
      go_wp2_with fail
      go_quiet (fail)
      go_wp2_with (go_at_call 45; refine (WR.out _ (NX.out nq).1.buf ?_).mono ?_)
      · refine HY.out.of_heap ?_
        rw [Below.heap_setCell _ _ _ _ hae]
        exact Below.heap_setCell _ _ _ _ han
      rintro e' W2 ⟨rfl, q, hB, hq, hk⟩
      have NX2 := hide (NX.out nq)
      have HB2 := hide hB
      have HQ2 := hide hq
      have HK2 := hide hk
      clear hB hq hk NX
      go_wp2
      go_ret
      have hst : stepC n Y ((n : Int) :: es, X) = (es, X ++ Y) := by simp [stepC]
      rw [hst]
      have hsz : (((w.setCell ⟨Nn, 0, none⟩ (.int .i64 ((n : Int) + 1))).drewN nq).setCell ⟨Ne, 0, none⟩ (.slice ad2 es.length (cp - 1))).heap.size = w.heap.size := by simp
      have hk1 : Kept (Nn :: Ne :: b :: g.toList) w (((w.setCell ⟨Nn, 0, none⟩ (.int .i64 ((n : Int) + 1))).drewN nq).setCell ⟨Ne, 0, none⟩ (.slice ad2 es.length (cp - 1))) :=
        ((NK.out nq).trans NX2.out.2).mono (fun x hx => by simp at hx ⊢; rcases hx with rfl | rfl | rfl <;> simp)
      have hk2 : Kept (Nn :: Ne :: b :: g.toList) w W2 := hk1.trans (HK2.out.mono (fun x hx => by simp at hx ⊢; rcases hx with rfl | hx; simp; simp [hx]))
      have hC := NX2.out.1
      obtain ⟨u1, u2, u3, u4, u5, u6, u7⟩ := hC.tags
      have hkk := HK2.out
      have hBw : B ≤ (((w.setCell ⟨Nn, 0, none⟩ (.int .i64 ((n : Int) + 1))).drewN nq).setCell ⟨Ne, 0, none⟩ (.slice ad2 es.length (cp - 1))).heap.size := Nat.le_trans hC.bn (Nat.le_of_lt (lt_of_block hC.cn))
      have nin : ∀ k, k ≠ b → (∀ q, g = some q → q ≠ k) → k ∉ b :: g.toList := fun k h1 h2 => by
        simp only [List.mem_cons, Option.mem_toList, not_or]
        exact ⟨h1, fun h => h2 k h rfl⟩
      obtain ⟨v3, he3, hE3⟩ := hC.ce
      refine ⟨rfl, some q, ⟨hkk.heap hC.cn (nin _ u3 (fun q hq => (u7 q hq).1)), ⟨v3, hkk.heap he3 (nin _ u5 (fun q hq => (u7 q hq).2.1)), hE3.below (hkk.below B hBw (fun x hx => ?_))⟩, hkk.heap hC.cw (nin _ u6 (fun q hq => (u7 q hq).2.2)), HB2.out, hC.bn, hC.be, hC.bw, hC.bb, fun q' hq' => ?_⟩, ?_, hk2⟩
      · simp only [List.mem_cons, Option.mem_toList] at hx
        rcases hx with rfl | hx
        · exact hC.bb
        · exact hC.bg x hx
      · cases hq'
        rcases HQ2.out with h | h
        · exact hC.bg q h
        · exact Nat.le_trans hBw h
      · rcases HQ2.out with h | h
        · exact .inl h.symm
        · exact .inr ⟨q, rfl, by omega⟩
    · have hnn : (e != (n : Int)) = true := by simpa using hen
      have hst : stepC n Y (e :: es, X) = (e :: es, X) := by simp [stepC, hen]
      rw [hst]
      clear h hst hcp
      go_enter Tryf.func14, Tryf.ntmps14
      go_wp2_with fail
      go_quiet (fail)
      go_wp2
      go_ret
      have hh := fun k => CT.out k ((n : Int) + 1) (by omega)
      exact ⟨rfl, g, (hh _).1, .inl rfl, (hh _).2.mono (fun x hx => by simp at hx ⊢; rcases hx with rfl | rfl | rfl <;> simp)⟩
end Go.Proofs.Qxb6616519aFmt
