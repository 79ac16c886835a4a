/-
  '(*bufio.Reader).fill'.
-/
import Derived.Test.Qxb6616519aFmtRead
import Derived.Deep.CutRange
namespace Go.Proofs.Qxb6616519aFmt
set_option linter.unusedVariables false
open Go.RowKit
/-- A bufio.Reader in block R over the strings.Reader in block S; its buffer is block K; r .. x of it are not yet read; p bytes of the text T have come in. -/
structure RdAt (R S K : Nat) (T : ByteArray) (r x p : Nat) (ev : Value) (w : World) : Prop where
  red : ∃ lb lr : Int, w.heap[R]? = some (.cells #[.slice (some ⟨K, 0, none⟩) 4096 4096, .iface 39 (.pointer (some ⟨S, 0, none⟩)), .int .i64 r, .int .i64 x, ev, .int .i64 lb, .int .i64 lr] 64 (0, 0))
  str : StrAt S T p w
  row : ∃ kc : Array Value, w.heap[K]? = some (.cells kc 5 (0, 0)) ∧ kc.size = 4096 ∧ (kc.toList.drop r).take (x - r) = bytesV ((T.data.toList.drop (p - (x - r))).take (x - r))
  hr : r ≤ x
  hx : x ≤ 4096
  hp : x - r ≤ p
  hT : p ≤ T.size
  rs : R ≠ S
  rk : R ≠ K
  sk : S ≠ K
theorem Tryf.nilRead (a : Addr) (w : World) : (nilAhead 198 39 (.pointer (some a)) "Read").run Tryf.prog w = .ok (some false) w := by kernel_rfl
theorem Tryf.methodRead (a : Addr) (w : World) : (method 198 39 (.pointer (some a)) "Read").run Tryf.prog w = .ok (53, .pointer (some a)) w := by kernel_rfl
theorem take_splice {kc cs : List Value} {n : Nat} (h : cs.length = n) : (kc.take 0 ++ cs ++ kc.drop (0 + n)).take n = cs := by
  simp [h]
/-- The copy that slides what is left to the buffer's head. -/
theorem slid {R S K r x p : Nat} {T : ByteArray} {w : World} (h : RdAt R S K T r x p .nilIface w) :
    ∃ ad : Addr, (if 4096 = r then some (⟨K, 0, none⟩ : Addr) else some ⟨K, r, none⟩) = some ad ∧ ∃ W2, (Builtin.copy_ #[26, 26] 3 #[.slice (some ⟨K, 0, none⟩) 4096 4096, .slice (some ad) (x - r) (4096 - r)]).run Tryf.prog w.drew = .ok (goInt ((x - r : Nat) : Int)) W2 ∧
      Kept [R, S, K] w W2 ∧ (∃ lb lr : Int, W2.heap[R]? = some (.cells #[.slice (some ⟨K, 0, none⟩) 4096 4096, .iface 39 (.pointer (some ⟨S, 0, none⟩)), .int .i64 r, .int .i64 x, .nilIface, .int .i64 lb, .int .i64 lr] 64 (0, 0))) ∧
      StrAt S T p W2 ∧ ∃ kc : Array Value, W2.heap[K]? = some (.cells kc 5 (0, 0)) ∧ kc.size = 4096 ∧ kc.toList.take (x - r) = bytesV ((T.data.toList.drop (p - (x - r))).take (x - r)) := by
  obtain ⟨lb, lr, hred⟩ := h.red
  obtain ⟨pr, hstr⟩ := h.str
  obtain ⟨kc, hK, hks, hkc⟩ := h.row
  have hx := h.hx
  have hrx := h.hr
  have hp := h.hp
  have hT := h.hT
  have hl : (bytesV ((T.data.toList.drop (p - (x - r))).take (x - r))).length = x - r := by
    have e : T.data.toList.length = T.size := by rw [Array.length_toList]; rfl
    rw [bytesV_length, List.length_take, List.length_drop, e]; omega
  obtain ⟨ad, had, hcell⟩ : ∃ ad : Addr, (if 4096 = r then some (⟨K, 0, none⟩ : Addr) else some ⟨K, r, none⟩) = some ad ∧ ∀ j v, (bytesV ((T.data.toList.drop (p - (x - r))).take (x - r)))[j]? = some v → w.drew.cell? (ad.add j) = some v := by
    by_cases e : 4096 = r
    · refine ⟨_, if_pos e, fun j v hj => ?_⟩
      have hxr : x - r = 0 := by omega
      rw [hxr] at hj
      simp [bytesV] at hj
    · refine ⟨_, if_neg e, fun j v hj => ?_⟩
      rw [World.cell?_drew, show (⟨K, r, none⟩ : Addr).add j = ⟨K, r + j, none⟩ by simp [Addr.add], cell_at hK]
      rw [← hkc, List.getElem?_take] at hj
      split at hj
      · rw [List.getElem?_drop] at hj
        rw [← Array.getElem?_toList]; exact hj
      · cases hj
  have hr := run_copy_row (P := Tryf.prog) w.drew 26 26 3 5 K 0 4096 4096 ad (x - r) (4096 - r) kc 5 _ Tryf.underlying26 Tryf.size5 hK (by rw [hl]; show _ = min _ _; omega) hcell (by rw [hl, hks]; omega) (bytesV_one _)
  refine ⟨ad, had, ?_⟩
  rw [hl] at hr
  have hl2 : (kc.toList.take 0 ++ bytesV ((T.data.toList.drop (p - (x - r))).take (x - r)) ++ kc.toList.drop (0 + (x - r))).length = 4096 := by
    simp only [List.length_append, hl, List.length_take, List.length_drop, Array.length_toList, hks]; omega
  refine ⟨_, hr, ((Kept.refl _ w).drew).setRow K (by simp) _, ⟨lb, lr, ?_⟩, ⟨pr, ?_⟩, _, setRow_heap _ _ _ _ _ _ hK, ?_, ?_⟩
  · rw [setRow_other _ _ _ _ h.rk]; exact hred
  · rw [setRow_other _ _ _ _ h.sk]; exact hstr
  · rw [List.size_toArray]; exact hl2
  · exact take_splice hl
theorem slid_end {R S K r x p : Nat} {T : ByteArray} {w W2 : World} (h : RdAt R S K T r x p .nilIface w) (hk : Kept [R, S, K] w W2)
    (hred : ∃ lb lr : Int, W2.heap[R]? = some (.cells #[.slice (some ⟨K, 0, none⟩) 4096 4096, .iface 39 (.pointer (some ⟨S, 0, none⟩)), .int .i64 r, .int .i64 x, .nilIface, .int .i64 lb, .int .i64 lr] 64 (0, 0)))
    (hstr : StrAt S T p W2) (hrow : ∃ kc : Array Value, W2.heap[K]? = some (.cells kc 5 (0, 0)) ∧ kc.size = 4096 ∧ kc.toList.take (x - r) = bytesV ((T.data.toList.drop (p - (x - r))).take (x - r))) :
    RdAt R S K T 0 (x - r) p .nilIface ((W2.setCell ⟨R, 3, none⟩ (.int .i64 ((x : Int) - (r : Int)))).setCell ⟨R, 2, none⟩ (.int .i64 0)).drew ∧ Kept [R, S, K] w ((W2.setCell ⟨R, 3, none⟩ (.int .i64 ((x : Int) - (r : Int)))).setCell ⟨R, 2, none⟩ (.int .i64 0)).drew := by
  obtain ⟨lb, lr, hred⟩ := hred
  obtain ⟨pr, hstr⟩ := hstr
  obtain ⟨kc, hK, hks, hkc⟩ := hrow
  have hrx := h.hr
  have hx := h.hx
  have e : (x : Int) - (r : Int) = ((x - r : Nat) : Int) := by omega
  rw [e]
  refine ⟨⟨⟨lb, lr, ?_⟩, ⟨pr, ?_⟩, ⟨kc, ?_, hks, ?_⟩, by omega, by omega, by simpa using h.hp, h.hT, h.rs, h.rk, h.sk⟩, ((hk.setCell ⟨R, 3, none⟩ (by simp) _).setCell ⟨R, 2, none⟩ (by simp) _).drew⟩
  · have := heap_set (heap_set hred 3 (.int .i64 ((x - r : Nat) : Int))) 2 (.int .i64 0)
    show ((W2.setCell ⟨R, 3, none⟩ (.int .i64 ((x - r : Nat) : Int))).setCell ⟨R, 2, none⟩ (.int .i64 0)).heap[R]? = _
    simpa using this
  · show ((W2.setCell ⟨R, 3, none⟩ (.int .i64 ((x - r : Nat) : Int))).setCell ⟨R, 2, none⟩ (.int .i64 0)).heap[S]? = _
    rw [Below.heap_setCell _ _ _ _ h.rs.symm, Below.heap_setCell _ _ _ _ h.rs.symm]; exact hstr
  · show ((W2.setCell ⟨R, 3, none⟩ (.int .i64 ((x - r : Nat) : Int))).setCell ⟨R, 2, none⟩ (.int .i64 0)).heap[K]? = _
    rw [Below.heap_setCell _ _ _ _ h.rk.symm, Below.heap_setCell _ _ _ _ h.rk.symm]; exact hK
  · simpa using hkc
theorem drop_take_ext {kc : List Value} {T : List UInt8} {n m p : Nat} (h : kc.take n = bytesV ((T.drop (p - n)).take n)) (hk : n + m ≤ kc.length) (hn : n ≤ p) (hp : p + m ≤ T.length) :
    (kc.take n ++ bytesV ((T.drop p).take m) ++ kc.drop (n + m)).take (n + m) = bytesV ((T.drop (p - n)).take (n + m)) := by
  have l1 : (kc.take n ++ bytesV ((T.drop p).take m)).length = n + m := by
    simp only [List.length_append, bytesV_length, List.length_take, List.length_drop]; omega
  rw [List.take_left' l1, h, ← bytesV_append, List.take_add, List.drop_drop]
  congr 4
  omega
theorem filled_end {R S K n m p : Nat} {lb lr : Int} {T : ByteArray} {wc w2 : World} (h : RdAt R S K T 0 n p .nilIface wc) (kc : Array Value) (hks : kc.size = 4096) (hkc : (kc.toList.drop 0).take (n - 0) = bytesV ((T.data.toList.drop (p - (n - 0))).take (n - 0)))
    (hred : w2.heap[R]? = some (.cells #[.slice (some ⟨K, 0, none⟩) 4096 4096, .iface 39 (.pointer (some ⟨S, 0, none⟩)), .int .i64 (0 : Nat), .int .i64 n, .nilIface, .int .i64 lb, .int .i64 lr] 64 (0, 0)))
    (hstr : StrAt S T (p + m) w2) (hK : w2.heap[K]? = some (.cells (kc.toList.take n ++ bytesV ((T.data.toList.drop p).take m) ++ kc.toList.drop (n + m)).toArray 5 (0, 0))) (hm1 : n + m ≤ 4096) (hmp : p + m ≤ T.size) :
    RdAt R S K T 0 (n + m) (p + m) .nilIface (w2.setCell ⟨R, 3, none⟩ (.int .i64 ((n : Int) + (m : Int)))) := by
  obtain ⟨pr, hstr⟩ := hstr
  have hp := h.hp
  have eT : T.data.toList.length = T.size := by rw [Array.length_toList]; rfl
  have l1 : (kc.toList.take n ++ bytesV ((T.data.toList.drop p).take m) ++ kc.toList.drop (n + m)).length = 4096 := by
    simp only [List.length_append, bytesV_length, List.length_take, List.length_drop, Array.length_toList, hks, eT]; omega
  refine ⟨⟨lb, lr, ?_⟩, ⟨pr, ?_⟩, ⟨(kc.toList.take n ++ bytesV ((T.data.toList.drop p).take m) ++ kc.toList.drop (n + m)).toArray, ?_, ?_, ?_⟩, by omega, hm1, by omega, hmp, h.rs, h.rk, h.sk⟩
  · have := heap_set hred 3 (.int .i64 ((n : Int) + (m : Int)))
    simpa using this
  · rw [Below.heap_setCell _ _ _ _ h.rs.symm]; exact hstr
  · rw [Below.heap_setCell _ _ _ _ h.rk.symm]; exact hK
  · rw [List.size_toArray]; exact l1
  · have := drop_take_ext (kc := kc.toList) (T := T.data.toList) (n := n) (m := m) (p := p) (by simpa using hkc) (by rw [Array.length_toList, hks]; omega) (by omega) (by rw [eT]; exact hmp)
    show (List.drop 0 _).take (n + m - 0) = bytesV ((T.data.toList.drop (p + m - (n + m - 0))).take (n + m - 0))
    rw [Nat.sub_zero, List.drop_zero, show p + m - (n + m) = p - n by omega]
    exact this
theorem ended_end {R S K n p k : Nat} {T : ByteArray} {wc : World} {Ev : Value} (h : RdAt R S K T 0 n p .nilIface wc) :
    RdAt R S K T 0 n p Ev (((wc.drewN k).setCell ⟨R, 3, none⟩ (.int .i64 n)).setCell ⟨R, 4, none⟩ Ev) := by
  obtain ⟨lb, lr, hred⟩ := h.red
  obtain ⟨pr, hstr⟩ := h.str
  obtain ⟨kc, hK, hks, hkc⟩ := h.row
  refine ⟨⟨lb, lr, ?_⟩, ⟨pr, ?_⟩, ⟨kc, ?_, hks, hkc⟩, h.hr, h.hx, h.hp, h.hT, h.rs, h.rk, h.sk⟩
  · have := heap_set (heap_set (w := wc.drewN k) hred 3 (.int .i64 n)) 4 Ev
    simpa using this
  · rw [Below.heap_setCell _ _ _ _ h.rs.symm, Below.heap_setCell _ _ _ _ h.rs.symm]; exact hstr
  · rw [Below.heap_setCell _ _ _ _ h.rk.symm, Below.heap_setCell _ _ _ _ h.rk.symm]; exact hK
set_option maxHeartbeats 8000000 in
set_option maxRecDepth 100000 in
theorem fill_any (R S K r x p n m : Nat) (T : ByteArray) (Ev : Value) (w : World) (h : RdAt R S K T r x p .nilIface w) (hn : n = x - r) (hm : m = min (T.size - p) (4096 - n)) (hlt : n < 4096) (hT : T.size ≤ 1073741824) (hE : w.cell? ⟨1, 0, none⟩ = some Ev) (hev : ∃ t a, Ev = .iface t (.pointer (some a)))
    (h1 : 1 ≠ R ∧ 1 ≠ S ∧ 1 ≠ K) :
    Calls Tryf.prog 25 #[.pointer (some ⟨R, 0, none⟩)] w fun e w' => e = .returned (.tuple #[]) ∧ Kept [R, S, K] w w' ∧
      ((p < T.size ∧ RdAt R S K T 0 (n + m) (p + m) .nilIface w') ∨ (p = T.size ∧ RdAt R S K T 0 n p Ev w')) := by
  have H := hide h
  obtain ⟨lb, lr, hred⟩ := h.red
  have c0 : w.cell? ⟨R, 0, none⟩ = some (.slice (some ⟨K, 0, none⟩) 4096 4096) := by rw [cell_at hred]; rfl
  have c2 : w.cell? ⟨R, 2, none⟩ = some (.int .i64 r) := by rw [cell_at hred]; rfl
  have c3 : w.cell? ⟨R, 3, none⟩ = some (.int .i64 x) := by rw [cell_at hred]; rfl
  have f2 := frozen_at hred 2
  have f3 := frozen_at hred 3
  have hrx := h.hr
  have hx := h.hx
  clear h hred
  go_enter Tryf.func25, Tryf.ntmps25
  go_upto_if 9 with fail
  go_cut [0] from 5 to 41 (fun s0 wx => s0 = .pointer (some ⟨R, 0, none⟩) ∧ Hid (RdAt R S K T 0 n p .nilIface wx) ∧ Hid (Kept [R, S, K] w wx))
  case first =>
    subst hn
    by_cases hr0 : 0 < r
    · have hr0' : decide ((0 : Int) < (r : Int)) = true := by simp; omega
      have hrx' : (r : Int) ≤ (x : Int) := by omega
      have hx' : (x : Int) ≤ 4096 := by omega
      go_wp2_with fail
      obtain ⟨ad, had, W2, hr2, hk2, ⟨lb2, lr2, hred2⟩, hstr2, hrow2⟩ := slid H.out
      have HR2 := hide hr2
      have HK2 := hide hk2
      have HS2 := hide hstr2
      have HW2 := hide hrow2
      have HD2 := hide hred2
      have d0 : W2.cell? ⟨R, 0, none⟩ = some (.slice (some ⟨K, 0, none⟩) 4096 4096) := by rw [cell_at hred2]; rfl
      have d2 : W2.cell? ⟨R, 2, none⟩ = some (.int .i64 r) := by rw [cell_at hred2]; rfl
      have d3 : W2.cell? ⟨R, 3, none⟩ = some (.int .i64 x) := by rw [cell_at hred2]; rfl
      have g2 := frozen_at hred2 2
      have g3 := frozen_at hred2 3
      clear hr2 hk2 hstr2 hrow2 hred2
      go_region_law (refine step_copy_run rfl (.tmp 13) (.tmp 26) 26 26 rfl _ _ rfl rfl _ _ HR2.out ?_)
      all_goals
        go_wp2_with fail
        go_region
        all_goals
          go_wp2_with fail
          go_meet
          have hse := slid_end H.out HK2.out ⟨lb2, lr2, HD2.out⟩ HS2.out HW2.out
          exact ⟨rfl, hse.1, hse.2⟩
    · obtain rfl : r = 0 := by omega
      have hr0' : decide ((0 : Int) < ((0 : Nat) : Int)) = false := by simp
      go_wp2_with fail
      go_meet
      exact ⟨rfl, by simpa using H, Kept.refl _ _⟩
  case rest =>
  obtain ⟨rfl, HC, HKC⟩ := hcut
  clear H c0 c2 c3 f2 f3 hn hrx hx
  have hE' : wc.cell? ⟨1, 0, none⟩ = some Ev := by
    have := HKC.out.block 1 (World.block_lt_of_cell? w ⟨1, 0, none⟩ hE) (by simp; omega)
    rw [World.cell?_of_block (a := ⟨1, 0, none⟩) this]; exact hE
  obtain ⟨lb, lr, hred⟩ := HC.out.red
  have c0 : wc.cell? ⟨R, 0, none⟩ = some (.slice (some ⟨K, 0, none⟩) 4096 4096) := by rw [cell_at hred]; rfl
  have c1 : wc.cell? ⟨R, 1, none⟩ = some (.iface 39 (.pointer (some ⟨S, 0, none⟩))) := by rw [cell_at hred]; rfl
  have c3 : wc.cell? ⟨R, 3, none⟩ = some (.int .i64 n) := by rw [cell_at hred]; rfl
  have HRED := hide hred
  clear hred
  have hge : decide ((4096 : Int) ≤ (n : Int)) = false := by simp; omega
  have hle : (n : Int) ≤ 4096 := by omega
  have hne : ¬ 4096 = n := by omega
  have hpT := HC.out.hT
  have HM := hide hm
  have h1R := h1.1
  have h1S := h1.2.1
  clear hm hE
  go_wp2_with fail
  go_quiet (fail)
  go_wp2_with fail
  go_loopw [2] (fun s2 wr => s2 = .int .i64 100 ∧ wr = wc.drewN nq) (fun _ _ => 0)
  case atStart => exact ⟨rfl, rfl⟩
  case round =>
    obtain ⟨rfl, rfl⟩ := hrel
    have hmt := Tryf.methodRead
    have hna := Tryf.nilRead
    by_cases hp : p < T.size
    · obtain ⟨kc, hK, hks, hkc⟩ := HC.out.row
      have RS := hide (fun W => read_some S K n (4096 - n) (4096 - n) p m T kc W)
      have HK := hide hK
      have HKC2 := hide hkc
      clear hK hkc
      have hm0 : 0 < m := by rw [HM.out]; omega
      have hm1 : n + m ≤ 4096 := by rw [HM.out]; omega
      have hmp : p + m ≤ T.size := by rw [HM.out]; omega
      have hlt0 : decide ((m : Int) < 0) = false := by simp
      have hgt0 : decide ((0 : Int) < (m : Int)) = true := by simp; omega
      go_wp2_with fail
      go_region_with (
        go_at_call 53
        refine (RS.out (wc.drewN (nq + 1)) HC.out.str HK.out HC.out.sk (by rw [hks]; omega) (by omega) hp hT HM.out).mono ?_
        rintro e w2 ⟨rfl, hstr2, hK2, hk2⟩
        have hred2 := hk2.heap (show (wc.drewN (nq + 1)).heap[R]? = _ from HRED.out) (by simp [HC.out.rs, HC.out.rk])
        have d3 : w2.cell? ⟨R, 3, none⟩ = some (.int .i64 n) := by rw [cell_at hred2]; rfl
        have g3 := frozen_at hred2 3
        have HS2 := hide hstr2
        have HK2 := hide hK2
        have Hk2 := hide hk2
        have HD2 := hide hred2
        clear hstr2 hK2 hk2 hred2)
      all_goals
        go_wp2
        refine bodyPost_ret (results_none rfl _ _ _) rfl ?_
        exact ⟨rfl, (HKC.out.trans_new ((((Kept.refl [S, K] wc).drewN (nq + 1)).trans Hk2.out)) (fun x hx => .inl (by simp at hx ⊢; omega))).setCell ⟨R, 3, none⟩ (by simp) _, .inl ⟨hp, filled_end HC.out kc hks HKC2.out HD2.out HS2.out HK2.out hm1 hmp⟩⟩
    · obtain rfl : p = T.size := by omega
      have RE := hide (fun W v => read_eof S v Ev T W)
      obtain ⟨tE, aE, rfl⟩ := hev
      have c4 : wc.cell? ⟨R, 4, none⟩ = some .nilIface := by rw [cell_at HRED.out]; rfl
      have f3 := frozen_at HRED.out 3
      have f4 := frozen_at HRED.out 4
      have HEv := hide hE'
      go_wp2_with fail
      go_region_with (
        go_at_call 53
        refine (RE.out (wc.drewN (nq + 1)) _ HC.out.str hT HEv.out ⟨_, _, rfl⟩).mono ?_
        rintro e w2 ⟨rfl, k2, rfl⟩)
      all_goals
        go_wp2
        refine bodyPost_ret (results_none rfl _ _ _) rfl ?_
        exact ⟨rfl, ((HKC.out.drewN _).setCell ⟨R, 3, none⟩ (by simp) _).setCell ⟨R, 4, none⟩ (by simp) _, by first | exact ended_end HC.out | exact .inr ⟨rfl, ended_end HC.out⟩⟩
end Go.Proofs.Qxb6616519aFmt
