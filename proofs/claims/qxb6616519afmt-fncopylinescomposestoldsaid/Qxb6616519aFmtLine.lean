/-
  '(*bufio.Reader).ReadSlice' at a newline: what it hands back.
-/
import Derived.Test.Qxb6616519aFmtRs
namespace Go.Proofs.Qxb6616519aFmt
set_option linter.unusedVariables false
open Go.RowKit
/-- How many bytes stand ahead of the first newline. -/
def nl (l : List UInt8) : Nat := (l.takeWhile (· != 10)).length
def NoNl (l : List UInt8) (s : Nat) : Prop := ∀ j, j < s → l[j]? ≠ some 10
theorem nl_le (l : List UInt8) : nl l ≤ l.length := (List.takeWhile_sublist _).length_le
theorem nl_found : ∀ {l : List UInt8} {k : Nat}, l[k]? = some 10 → NoNl l k → nl l = k
  | [], k, h, _ => by simp at h
  | c :: l, 0, h, _ => by
    simp at h
    subst h
    rfl
  | c :: l, k + 1, h, h2 => by
    have hc : c ≠ 10 := by
      intro e
      exact h2 0 (by omega) (by simp [e])
    have := nl_found (l := l) (k := k) (by simpa using h) (fun j hj => by have := h2 (j + 1) (by omega); simpa using this)
    unfold nl at this ⊢
    rw [List.takeWhile_cons, if_pos (by simpa using hc), List.length_cons, this]
theorem nl_ge : ∀ {l : List UInt8} {k : Nat}, NoNl l k → k ≤ l.length → k ≤ nl l
  | _, 0, _, _ => Nat.zero_le _
  | [], k + 1, _, h => by simp at h
  | c :: l, k + 1, h2, h => by
    have hc : c ≠ 10 := by
      intro e
      exact h2 0 (by omega) (by simp [e])
    have := nl_ge (l := l) (k := k) (fun j hj => by have := h2 (j + 1) (by omega); simpa using this) (by simpa using h)
    unfold nl at this ⊢
    rw [List.takeWhile_cons, if_pos (by simpa using hc), List.length_cons]
    omega
theorem nl_none {l : List UInt8} (h : NoNl l l.length) : nl l = l.length := Nat.le_antisymm (nl_le l) (nl_ge h (Nat.le_refl _))
/-- How a ReadSlice ends: with the line; with a full buffer; at the text's end. -/
def Kind (l : List UInt8) (len : Nat) (ev Ev Fv : Value) : Prop :=
  (ev = .nilIface ∧ nl l < l.length ∧ len = nl l + 1) ∨ (ev = Fv ∧ len = 4096 ∧ 4096 ≤ nl l) ∨ (ev = Ev ∧ len = l.length ∧ nl l = l.length)
def posOf (S : Nat) (w : World) : Nat := match w.cell? ⟨S, 1, none⟩ with | some (.int _ z) => z.toNat | _ => 0
def errNil (R : Nat) (w : World) : Nat := match w.cell? ⟨R, 4, none⟩ with | some .nilIface => 1 | _ => 0
theorem RdAt.pos {R S K r x p : Nat} {T : ByteArray} {ev : Value} {w : World} (h : RdAt R S K T r x p ev w) : posOf S w = p := by
  obtain ⟨pr, hs⟩ := h.str
  unfold posOf
  rw [cell_at hs]
  simp
theorem RdAt.err {R S K r x p : Nat} {T : ByteArray} {ev : Value} {w : World} (h : RdAt R S K T r x p ev w) : w.cell? ⟨R, 4, none⟩ = some ev := by
  obtain ⟨lb, lr, hr⟩ := h.red
  rw [cell_at hr]
  rfl
theorem RdAt.errNil {R S K r x p : Nat} {T : ByteArray} {w : World} (h : RdAt R S K T r x p .nilIface w) : errNil R w = 1 := by
  unfold Qxb6616519aFmt.errNil
  rw [h.err]
theorem RdAt.errSome {R S K r x p : Nat} {T : ByteArray} {w : World} {t : TypeId} {v : Value} (h : RdAt R S K T r x p (.iface t v) w) : Qxb6616519aFmt.errNil R w = 0 := by
  unfold Qxb6616519aFmt.errNil
  rw [h.err]
theorem RdAt.bytes {R S K r x p : Nat} {T : ByteArray} {ev : Value} {w : World} (h : RdAt R S K T r x p ev w) (s len : Nat) (hs : s + len ≤ x - r) :
    BytesAt w K (r + s) (((T.data.toList.drop (p - (x - r))).drop s).take len) := by
  obtain ⟨kc, hK, hks, hkc⟩ := h.row
  intro j v hj
  have hj2 : j < len := by
    have := (List.getElem?_eq_some_iff.1 hj).1
    rw [bytesV_length, List.length_take] at this
    omega
  rw [cell_at hK, ← Array.getElem?_toList]
  have e : (bytesV ((T.data.toList.drop (p - (x - r))).take (x - r)))[s + j]? = some v := by
    rw [← hj, bytesV, bytesV, List.getElem?_map, List.getElem?_map, List.getElem?_take, List.getElem?_take, if_pos (by omega), if_pos hj2, List.getElem?_drop (i := s)]
  rw [← hkc, List.getElem?_take, if_pos (by omega), List.getElem?_drop] at e
  rw [← e]
  congr 1
  omega
theorem RdAt.move {R S K r x p len : Nat} {T : ByteArray} {ev ev' : Value} {w w' : World} (h : RdAt R S K T r x p ev w) (hl : r + len ≤ x)
    (hred : ∃ lb lr : Int, w'.heap[R]? = some (.cells #[.slice (some ⟨K, 0, none⟩) 4096 4096, .iface 39 (.pointer (some ⟨S, 0, none⟩)), .int .i64 ((r + len : Nat) : Int), .int .i64 x, ev', .int .i64 lb, .int .i64 lr] 64 (0, 0)))
    (hS : w'.heap[S]? = w.heap[S]?) (hK : w'.heap[K]? = w.heap[K]?) : RdAt R S K T (r + len) x p ev' w' := by
  obtain ⟨pr, hs⟩ := h.str
  obtain ⟨kc, hk, hks, hkc⟩ := h.row
  have hx := h.hx
  have hr := h.hr
  have hp := h.hp
  refine ⟨hred, ⟨pr, hS.trans hs⟩, ⟨kc, hK.trans hk, hks, ?_⟩, hl, hx, by omega, h.hT, h.rs, h.rk, h.sk⟩
  have e := congrArg (List.drop len) hkc
  rw [List.drop_take, List.drop_drop, bytesV, ← List.map_drop, List.drop_take, List.drop_drop] at e
  rw [show x - (r + len) = x - r - len by omega, show p - (x - r - len) = p - (x - r) + len by omega]
  exact e
theorem line_end {R S K r x p len n : Nat} {T : ByteArray} {ev : Value} {w : World} {z lb lr : Int} (h : RdAt R S K T r x p ev w) (hl : r + len ≤ x) (hz : z = ((r + len : Nat) : Int)) (hev : ev = .nilIface) :
    RdAt R S K T (r + len) x p .nilIface ((((w.drewN n).setCell ⟨R, 2, none⟩ (.int .i64 z)).setCell ⟨R, 5, none⟩ (.int .i64 lb)).setCell ⟨R, 6, none⟩ (.int .i64 lr)) ∧
    Kept [R, S, K] w ((((w.drewN n).setCell ⟨R, 2, none⟩ (.int .i64 z)).setCell ⟨R, 5, none⟩ (.int .i64 lb)).setCell ⟨R, 6, none⟩ (.int .i64 lr)) ∧
    BytesAt ((((w.drewN n).setCell ⟨R, 2, none⟩ (.int .i64 z)).setCell ⟨R, 5, none⟩ (.int .i64 lb)).setCell ⟨R, 6, none⟩ (.int .i64 lr)) K r ((T.data.toList.drop (p - (x - r))).take len) := by
  subst hz hev
  obtain ⟨lb0, lr0, hred⟩ := h.red
  have hb : ∀ k, k ≠ R → ((((w.drewN n).setCell ⟨R, 2, none⟩ (.int .i64 ((r + len : Nat) : Int))).setCell ⟨R, 5, none⟩ (.int .i64 lb)).setCell ⟨R, 6, none⟩ (.int .i64 lr)).heap[k]? = w.heap[k]? := fun k hk => by
    rw [Below.heap_setCell _ _ _ _ hk, Below.heap_setCell _ _ _ _ hk, Below.heap_setCell _ _ _ _ hk]; rfl
  refine ⟨h.move hl ⟨lb, lr, ?_⟩ (hb _ h.rs.symm) (hb _ h.rk.symm), (((((Kept.refl _ w).drewN n).setCell ⟨R, 2, none⟩ (by simp) _).setCell ⟨R, 5, none⟩ (by simp) _).setCell ⟨R, 6, none⟩ (by simp) _), ?_⟩
  · have := heap_set (heap_set (heap_set (w := w.drewN n) hred 2 (.int .i64 ((r + len : Nat) : Int))) 5 (.int .i64 lb)) 6 (.int .i64 lr)
    simpa using this
  · have := h.bytes 0 len (by omega)
    exact BytesAt.of_heap this (hb _ h.rk.symm)
theorem eof_end0 {R S K r x p : Nat} {T : ByteArray} {ev : Value} {w : World} (h : RdAt R S K T r x p ev w) (n : Nat) :
    RdAt R S K T x x p .nilIface (((w.drewN n).setCell ⟨R, 2, none⟩ (.int .i64 x)).setCell ⟨R, 4, none⟩ .nilIface) ∧ Kept [R, S, K] w (((w.drewN n).setCell ⟨R, 2, none⟩ (.int .i64 x)).setCell ⟨R, 4, none⟩ .nilIface) ∧
      (((w.drewN n).setCell ⟨R, 2, none⟩ (.int .i64 x)).setCell ⟨R, 4, none⟩ .nilIface).heap[K]? = w.heap[K]? := by
  obtain ⟨lb0, lr0, hred⟩ := h.red
  have hrx := h.hr
  have hb : ∀ k, k ≠ R → (((w.drewN n).setCell ⟨R, 2, none⟩ (.int .i64 x)).setCell ⟨R, 4, none⟩ .nilIface).heap[k]? = w.heap[k]? := fun k hk => by
    rw [Below.heap_setCell _ _ _ _ hk, Below.heap_setCell _ _ _ _ hk]; rfl
  refine ⟨?_, (((Kept.refl _ w).drewN n).setCell ⟨R, 2, none⟩ (by simp) _).setCell ⟨R, 4, none⟩ (by simp) _, hb _ h.rk.symm⟩
  have := h.move (len := x - r) (w' := (((w.drewN n).setCell ⟨R, 2, none⟩ (.int .i64 x)).setCell ⟨R, 4, none⟩ .nilIface)) (ev' := .nilIface) (by omega) ⟨lb0, lr0, by
    have := heap_set (heap_set (w := w.drewN n) hred 2 (.int .i64 x)) 4 .nilIface
    rw [show r + (x - r) = x by omega]
    simpa using this⟩ (hb _ h.rs.symm) (hb _ h.rk.symm)
  rw [show r + (x - r) = x by omega] at this
  exact this
theorem eof_end1 {R S K x p : Nat} {T : ByteArray} {w : World} (h : RdAt R S K T x x p .nilIface w) (lb lr : Int) :
    RdAt R S K T x x p .nilIface ((w.setCell ⟨R, 5, none⟩ (.int .i64 lb)).setCell ⟨R, 6, none⟩ (.int .i64 lr)) ∧ Kept [R, S, K] w ((w.setCell ⟨R, 5, none⟩ (.int .i64 lb)).setCell ⟨R, 6, none⟩ (.int .i64 lr)) ∧
      ((w.setCell ⟨R, 5, none⟩ (.int .i64 lb)).setCell ⟨R, 6, none⟩ (.int .i64 lr)).heap[K]? = w.heap[K]? := by
  obtain ⟨lb0, lr0, hred⟩ := h.red
  have hb : ∀ k, k ≠ R → ((w.setCell ⟨R, 5, none⟩ (.int .i64 lb)).setCell ⟨R, 6, none⟩ (.int .i64 lr)).heap[k]? = w.heap[k]? := fun k hk => by
    rw [Below.heap_setCell _ _ _ _ hk, Below.heap_setCell _ _ _ _ hk]
  refine ⟨?_, ((Kept.refl _ w).setCell ⟨R, 5, none⟩ (by simp) _).setCell ⟨R, 6, none⟩ (by simp) _, hb _ h.rk.symm⟩
  exact h.move (len := 0) (by omega) ⟨lb, lr, by
    have := heap_set (heap_set hred 5 (.int .i64 lb)) 6 (.int .i64 lr)
    simpa using this⟩ (hb _ h.rs.symm) (hb _ h.rk.symm)
set_option maxHeartbeats 8000000 in
set_option maxRecDepth 100000 in
theorem readSlice_any (R S K r0 x0 p0 q : Nat) (T : ByteArray) (L : List UInt8) (Ev Fv : Value) (w : World) (h : RdAt R S K T r0 x0 p0 .nilIface w) (hq : p0 - (x0 - r0) = q) (hL : T.data.toList.drop q = L) (hT : T.size ≤ 1073741824)
    (hE : w.cell? ⟨1, 0, none⟩ = some Ev) (hF : w.cell? ⟨0, 0, none⟩ = some Fv) (hev : ∃ t a, Ev = .iface t (.pointer (some a))) (hfv : ∃ t a, Fv = .iface t (.pointer (some a))) (h1 : 1 ≠ R ∧ 1 ≠ S ∧ 1 ≠ K) (h0 : 0 ≠ R ∧ 0 ≠ S ∧ 0 ≠ K) :
    Calls Tryf.prog 17 #[.pointer (some ⟨R, 0, none⟩), .int .u8 10] w fun e w' => ∃ (ad : Addr) (len cap : Nat) (ev : Value) (r x p : Nat), e = .returned (.tuple #[.slice (some ad) len cap, ev]) ∧ RdAt R S K T r x p .nilIface w' ∧ p - (x - r) = q + len ∧
      Kept [R, S, K] w w' ∧ ad.block = K ∧ ad.spot = none ∧ len ≤ cap ∧ len ≤ 4096 ∧ BytesAt w' K ad.off (L.take len) ∧ Kind L len ev Ev Fv := by
  have H := hide h
  have HL := hide hL
  have HQ := hide hq
  have HE := hide hE
  have HF := hide hF
  clear h hL hq hE hF
  go_enter Tryf.func17, Tryf.ntmps17
  go_wp2_with fail
  go_loopw [5, 6] (fun s5 s6 wr => ∃ (s r x p : Nat) (ev : Value), s5 = .nilIface ∧ s6 = .int .i64 s ∧ Hid (RdAt R S K T r x p ev wr) ∧ Hid (ev = .nilIface ∨ (ev = Ev ∧ p = T.size ∧ s = x - r)) ∧ s ≤ x - r ∧ Hid (p - (x - r) = q) ∧ Hid (NoNl L s) ∧ Hid (Kept [R, S, K] w wr)) (fun _ _ wr => 2 * (T.size - posOf S wr) + errNil R wr)
  case atStart => exact ⟨0, r0, x0, p0, .nilIface, rfl, rfl, H, .inl rfl, by omega, HQ, fun j hj => by omega, Kept.refl _ _⟩
  case round =>
    clear H HQ
    obtain ⟨s, r, x, p, ev, rfl, rfl, H, HEV, hs, HQ, HN, HK⟩ := hrel
    obtain ⟨lb, lr, hred⟩ := H.out.red
    have hrx := H.out.hr
    have hx := H.out.hx
    have c0 : wr.cell? ⟨R, 0, none⟩ = some (.slice (some ⟨K, 0, none⟩) 4096 4096) := by rw [cell_at hred]; rfl
    have c2 : wr.cell? ⟨R, 2, none⟩ = some (.int .i64 r) := by rw [cell_at hred]; rfl
    have c3 : wr.cell? ⟨R, 3, none⟩ = some (.int .i64 x) := by rw [cell_at hred]; rfl
    have c4 : wr.cell? ⟨R, 4, none⟩ = some ev := by rw [cell_at hred]; rfl
    have c5 : wr.cell? ⟨R, 5, none⟩ = some (.int .i64 lb) := by rw [cell_at hred]; rfl
    have c6 : wr.cell? ⟨R, 6, none⟩ = some (.int .i64 lr) := by rw [cell_at hred]; rfl
    have f2 := frozen_at hred 2
    have f4 := frozen_at hred 4
    have f5 := frozen_at hred 5
    have f6 := frozen_at hred 6
    have HRED := hide hred
    clear hred
    have hrs : (r : Int) + (s : Int) ≤ (x : Int) := by omega
    have hx4 : (x : Int) ≤ 4096 := by omega
    obtain ⟨o, had, HB⟩ : ∃ o : Nat, (if 4096 = r + s then some (⟨K, 0, none⟩ : Addr) else some ⟨K, r + s, none⟩) = some ⟨K, o, none⟩ ∧ Hid (BytesAt wr K o ((L.drop s).take (x - r - s))) := by
      have hb := H.out.bytes s (x - r - s) (by omega)
      rw [HQ.out, HL.out] at hb
      by_cases e : 4096 = r + s
      · refine ⟨0, if_pos e, ?_⟩
        rw [show x - r - s = 0 by omega]
        intro j v hj
        simp [bytesV] at hj
      · exact ⟨_, if_neg e, hb⟩
    have hLl : x - r ≤ L.length := by
      rw [← HL.out, List.length_drop, Array.length_toList]
      have := H.out.hp
      have := H.out.hT
      have := HQ.out
      show x - r ≤ T.size - q
      omega
    have hZl : ((L.drop s).take (x - r - s)).length = x - (r + s) := by rw [List.length_take, List.length_drop]; omega
    obtain ⟨i, HI⟩ : ∃ i, Hid (Lib.indexByte ((L.drop s).take (x - r - s)) 10 = i) := ⟨_, rfl⟩
    have IB : Hid (∀ k, Calls Tryf.prog 22 #[.slice (some ⟨K, o, none⟩) (x - (r + s)) (4096 - (r + s)), .int .u8 10] (wr.drewN k) fun e w' => e = .returned (.int .i64 i) ∧ w' = wr.drewN k) := by
      intro k
      rw [← HI.out]
      exact indexByte_at K o (x - (r + s)) (4096 - (r + s)) _ (wr.drewN k) hZl HB.out
    clear hZl
    go_wp2_with fail
    go_quiet (first | (go_at_call 22; refine Calls.quiet_of_same (IB.out _)))
    clear had
    generalize (if 4096 = r + s then some (⟨K, 0, none⟩ : Addr) else some ⟨K, r + s, none⟩) = jk
    by_cases hi : i = -1
    · subst hi
      have HN2 : Hid (NoNl L (x - r)) := by
        intro j hj
        by_cases hjs : j < s
        · exact HN.out j hjs
        · have := Lib.indexByte_none HI.out (j - s)
          rw [List.getElem?_take, if_pos (by omega), List.getElem?_drop, show s + (j - s) = j by omega] at this
          exact this
      clear IB HI HB HN
      rcases HEV.out with rfl | ⟨rfl, hpT, hsx⟩
      · by_cases hfull : x - r < 4096
        · have BU : ∀ j k, Calls Tryf.prog 24 #[.pointer (some ⟨R, 0, none⟩)] (wr.drewN (j + k)) fun e w'' => e = .returned (.int .i64 ((x - r : Nat) : Int)) ∧ ∃ n, w'' = wr.drewN (j + n) := fun j k => (buffered_any R r x (wr.drewN (j + k)) c2 c3 hrx hx).mono (fun e w' h => ⟨h.1, by obtain ⟨m, hm⟩ := h.2; exact ⟨k + m, by rw [hm, World.drewN_drewN, Nat.add_assoc]⟩⟩)
          have HBU := hide BU
          clear BU
          have hlt4 : decide ((4096 : Int) ≤ ((x - r : Nat) : Int)) = false := by simp; omega
          have hrx' : (r : Int) ≤ (x : Int) := by omega
          go_wp2_with fail
          go_quiet (first | (go_at_call 24; exact HBU.out _ _))
          go_wp2_with fail
          go_quiet (fail)
          have FI := hide (fun W h hE => fill_any R S K r x p (x - r) (min (T.size - p) (4096 - (x - r))) T Ev W h rfl rfl hfull hT hE hev h1)
          have hE1 : wr.cell? ⟨1, 0, none⟩ = some Ev := by
            rw [World.cell?_of_block (a := ⟨1, 0, none⟩) (HK.out.block 1 (World.block_lt_of_cell? w ⟨1, 0, none⟩ HE.out) (by simp; omega))]
            exact HE.out
          have hHd : ∀ n, RdAt R S K T r x p .nilIface (wr.drewN n) := fun n => ⟨H.out.red, H.out.str, H.out.row, H.out.hr, H.out.hx, H.out.hp, H.out.hT, H.out.rs, H.out.rk, H.out.sk⟩
          have HHd := hide hHd
          have HE1 := hide hE1
          clear hHd hE1
          go_wp2_with (go_at_call 25; refine (FI.out (wr.drewN _) (HHd.out _) HE1.out).mono ?_; rintro e w' ⟨rfl, HFK, HFR⟩; replace HFK := hide HFK; replace HFR := hide HFR)
          go_roundw
          case rel =>
            have hkk : Kept [R, S, K] w w' := HK.out.trans (((Kept.refl _ wr).drewN _).trans HFK.out)
            rcases HFR.out with ⟨hp, hR⟩ | ⟨hp, hR⟩
            · exact ⟨x - r, _, _, _, _, rfl, by go_num, hR, .inl rfl, by omega, by have := HQ.out; have := H.out.hp; show _ = _; omega, HN2, hkk⟩
            · exact ⟨x - r, _, _, _, _, rfl, by go_num, hR, .inr ⟨rfl, hp, by omega⟩, by omega, by have := HQ.out; have := H.out.hp; show _ = _; omega, HN2, hkk⟩
          case measure =>
            rw [H.out.pos, H.out.errNil]
            rcases HFR.out with ⟨hp, hR⟩ | ⟨hp, hR⟩
            · rw [hR.pos, hR.errNil]; omega
            · obtain ⟨tE, aE, rfl⟩ := hev
              rw [hR.pos, hR.errSome]; omega
        · obtain rfl : r = 0 := by omega
          obtain rfl : x = 4096 := by omega
          obtain ⟨tF, aF, rfl⟩ := hfv
          have BU : ∀ j k, Calls Tryf.prog 24 #[.pointer (some ⟨R, 0, none⟩)] (wr.drewN (j + k)) fun e w'' => e = .returned (.int .i64 ((4096 - 0 : Nat) : Int)) ∧ ∃ n, w'' = wr.drewN (j + n) := fun j k => (buffered_any R 0 4096 (wr.drewN (j + k)) c2 c3 hrx hx).mono (fun e w' h => ⟨h.1, by obtain ⟨m, hm⟩ := h.2; exact ⟨k + m, by rw [hm, World.drewN_drewN, Nat.add_assoc]⟩⟩)
          have HBU := hide BU
          clear BU
          obtain ⟨cb, hcb⟩ : ∃ cb : UInt8, ∀ n v, ((wr.drewN n).setCell ⟨R, 2, none⟩ v).cell? ⟨K, 4095, none⟩ = some (.int .u8 cb.toNat) := by
            refine ⟨L[4095]'(by omega), fun n v => ?_⟩
            have hb := H.out.bytes 4095 1 (by omega) 0 (.int .u8 (L[4095]'(by omega)).toNat) (by
              rw [HQ.out, HL.out, bytesV, List.getElem?_map, List.getElem?_take, if_pos (by omega), List.getElem?_drop, List.getElem?_eq_getElem (by omega)]
              rfl)
            rw [World.cell?_of_block (a := ⟨K, 4095, none⟩) (Below.heap_setCell _ _ _ _ (fun e => H.out.rk e.symm))]
            exact hb
          have hF0 : ∀ n v, ((wr.drewN n).setCell ⟨R, 2, none⟩ v).cell? ⟨0, 0, none⟩ = some (.iface tF (.pointer (some aF))) := fun n v => by
            rw [World.cell?_of_block (a := ⟨0, 0, none⟩) (Below.heap_setCell _ _ _ _ h0.1), World.cell?_of_block (a := ⟨0, 0, none⟩) (show (wr.drewN n).heap[0]? = w.heap[0]? from HK.out.block 0 (World.block_lt_of_cell? w ⟨0, 0, none⟩ HF.out) (by simp; omega))]
            exact HF.out
          go_wp2_with fail
          go_quiet (first | (go_at_call 24; exact HBU.out _ _))
          go_wp2
          go_ret2
          have le := fun n lb => line_end (z := 4096) (lb := lb) (lr := -1) (len := 4096) (n := n) H.out (by omega) (by omega) rfl
          rw [HQ.out, HL.out] at le
          refine ⟨⟨K, 0, none⟩, 4096, 4096, .iface tF (.pointer (some aF)), 0 + 4096, 4096, p, rfl, (le _ _).1, ?_, HK.out.trans (le _ _).2.1, rfl, rfl, by omega, by omega, (le _ _).2.2, ?_⟩
          · have := HQ.out; have := H.out.hp; omega
          · exact .inr (.inl ⟨rfl, rfl, nl_ge HN2.out (by omega)⟩)
      · obtain ⟨tE, aE, rfl⟩ := hev
        have hxT : Hid (L.length = x - r) := by
          show _ = _
          rw [← HL.out, List.length_drop, Array.length_toList]
          have := H.out.hp
          have := HQ.out
          show T.size - q = x - r
          omega
        have hrx' : (r : Int) ≤ (x : Int) := by omega
        obtain ⟨o2, had2, HB2⟩ : ∃ o2 : Nat, (if 4096 = r then some (⟨K, 0, none⟩ : Addr) else some ⟨K, r, none⟩) = some ⟨K, o2, none⟩ ∧ Hid (BytesAt wr K o2 (L.take (x - r))) := by
          have hb := H.out.bytes 0 (x - r) (by omega)
          rw [HQ.out, HL.out, List.drop_zero] at hb
          by_cases e : 4096 = r
          · refine ⟨0, if_pos e, ?_⟩
            rw [show x - r = 0 by omega]
            intro j v hj
            simp [bytesV] at hj
          · exact ⟨_, if_neg e, hb⟩
        have RE := fun W h1 h2 => readErr_any R (.iface tE (.pointer (some aE))) W (.inr ⟨_, _, rfl⟩) h1 h2
        have HSX := hide hsx
        clear hsx
        go_wp2_with fail
        go_quiet (fail)
        clear had2
        by_cases hxr : x - r = 0
        · have hxr' : x = r := by omega
          subst hxr'
          go_wp2_with (go_at_call 23; refine (RE _ (by go_simp) (by go_simp)).mono ?_; rintro e w' ⟨rfl, rfl⟩)
          go_ret2
          have le := fun n => eof_end0 H.out n
          refine ⟨⟨K, o2, none⟩, 0, 4096 - x, .iface tE (.pointer (some aE)), x, x, p, rfl, (le _).1, ?_, HK.out.trans (le _).2.1, rfl, rfl, by omega, by omega, fun j v hj => by simp [bytesV] at hj, ?_⟩
          · have := HQ.out; omega
          · have e0 : L.length = 0 := by rw [hxT.out]; omega
            exact .inr (.inr ⟨rfl, e0.symm, nl_none (fun j hj => by omega)⟩)
        · obtain ⟨cb, hcb⟩ : ∃ cb : UInt8, ∀ n v v', (((wr.drewN n).setCell ⟨R, 2, none⟩ v).setCell ⟨R, 4, none⟩ v').cell? ⟨K, o2 + (x - r - 1), none⟩ = some (.int .u8 cb.toNat) := by
            refine ⟨L[x - r - 1]'(by omega), fun n v v' => ?_⟩
            have hb := HB2.out (x - r - 1) (.int .u8 (L[x - r - 1]'(by omega)).toNat) (by
              rw [bytesV, List.getElem?_map, List.getElem?_take, if_pos (by omega), List.getElem?_eq_getElem (by omega)]
              rfl)
            rw [World.cell?_of_block (a := ⟨K, o2 + (x - r - 1), none⟩) (Below.heap_setCell _ _ _ _ (fun e => H.out.rk e.symm)), World.cell?_of_block (a := ⟨K, o2 + (x - r - 1), none⟩) (Below.heap_setCell _ _ _ _ (fun e => H.out.rk e.symm))]
            exact hb
          have hg : decide ((0 : Int) ≤ ((x - r : Nat) : Int) - 1) = true := by simp; omega
          go_wp2_with (go_at_call 23; refine (RE _ (by go_simp) (by go_simp)).mono ?_; rintro e w' ⟨rfl, rfl⟩)
          go_ret2
          have le := fun n => eof_end0 H.out n
          have le2 := fun n lb => eof_end1 (le n).1 lb (-1)
          refine ⟨⟨K, o2, none⟩, x - r, 4096 - r, .iface tE (.pointer (some aE)), x, x, p, rfl, (le2 _ _).1, ?_, (HK.out.trans (le _).2.1).trans (le2 _ _).2.1, rfl, rfl, by omega, by omega, HB2.out.of_heap ((le2 _ _).2.2.trans (le _).2.2), ?_⟩
          · have := HQ.out; have := H.out.hp; omega
          · exact .inr (.inr ⟨rfl, hxT.out.symm, nl_none (by rw [hxT.out]; exact HN2.out)⟩)
    · obtain ⟨k, rfl⟩ : ∃ k : Nat, i = k := ⟨i.toNat, by have := Lib.indexByte_ge ((L.drop s).take (x - r - s)) 10; rw [HI.out] at this; omega⟩
      obtain ⟨hk1, hk2⟩ := Lib.indexByte_some HI.out
      have hkl : k < x - r - s := by
        have := (List.getElem?_eq_some_iff.1 hk1).1
        rw [List.length_take] at this
        omega
      rw [List.getElem?_take, if_pos hkl, List.getElem?_drop] at hk1
      have HNL : Hid (nl L = s + k) := nl_found hk1 (fun j hj => by
        by_cases hjs : j < s
        · exact HN.out j hjs
        · have := hk2 (j - s) (by omega)
          rw [List.getElem?_take, if_pos (by omega), List.getElem?_drop, show s + (j - s) = j by omega] at this
          exact this)
      clear hi hk1 hk2 IB HI HB HN
      have hk0 : decide ((0 : Int) ≤ (k : Int)) = true := by simp
      have hk4 : (r : Int) + ((k : Int) + (s : Int)) + 1 ≤ 4096 := by omega
      have hrl : r < 4096 := by omega
      have hne : ¬ 4096 = r := by omega
      obtain ⟨cb, HCB⟩ : ∃ cb : UInt8, Hid (∀ n v, ((wr.drewN n).setCell ⟨R, 2, none⟩ v).cell? ⟨K, r + (k + s), none⟩ = some (.int .u8 cb.toNat)) := by
        refine ⟨L[s + k]'(by omega), fun n v => ?_⟩
        have hb := H.out.bytes (s + k) 1 (by omega) 0 (.int .u8 (L[s + k]'(by omega)).toNat) (by
          rw [HQ.out, HL.out, bytesV, List.getElem?_map, List.getElem?_take, if_pos (by omega), List.getElem?_drop, List.getElem?_eq_getElem (by omega)]
          rfl)
        rw [World.cell?_of_block (a := ⟨K, r + (k + s), none⟩) (Below.heap_setCell _ _ _ _ (fun e => H.out.rk e.symm)), show r + (k + s) = r + (s + k) + 0 by omega]
        exact hb
      have hcb := HCB.out
      have hlen : r + (k + s) + 1 - r = k + s + 1 := by omega
      go_wp2_with fail
      go_quiet (fail)
      go_wp2
      go_ret2
      have hevn : ev = .nilIface := HEV.out.resolve_right (fun h => by have := h.2.2; omega)
      have le := fun n lb => line_end (z := (r : Int) + ((k : Int) + (s : Int) + 1)) (lb := lb) (lr := -1) (len := r + (k + s) + 1 - r) (n := n) H.out (by omega) (by omega) hevn
      rw [HQ.out, HL.out] at le
      refine ⟨⟨K, r, none⟩, r + (k + s) + 1 - r, 4096 - r, .nilIface, r + (r + (k + s) + 1 - r), x, p, rfl, (le _ _).1, ?_, HK.out.trans (le _ _).2.1, rfl, rfl, by omega, by omega, (le _ _).2.2, ?_⟩
      · have := HQ.out; have := H.out.hp; omega
      · refine .inl ⟨rfl, ?_, ?_⟩ <;> rw [HNL.out] <;> omega
end Go.Proofs.Qxb6616519aFmt
