/-
  '(*bytes.Buffer).Write'.
-/
import Derived.Test.Qxb6616519aFmtGrow
import Derived.Test.Qxb6616519aFmtShelf
namespace Go.Proofs.Qxb6616519aFmt
set_option linter.unusedVariables false
open Go.RowKit
theorem Tryf.size5' : (Tryf.prog.info? 5).map (·.size) = some 1 := by kernel_rfl
/-- Where there is room for Y behind X: block q is the buffer's row. -/
def Room (b q l n cap : Nat) (X : List UInt8) (w : World) : Prop :=
  ∃ (lr : Int) (cur : Array Value), q ≠ b ∧ w.heap[b]? = some (.cells #[.slice (some ⟨q, 0, none⟩) (l + n) cap, .int .i64 0, .int .i8 lr] 34 (0, 0)) ∧
    w.heap[q]? = some (.cells cur 5 (0, 0)) ∧ cur.size = cap ∧ l + n ≤ cap ∧ cap ≤ maxLen ∧ cur.toList.take l = bytesV X
theorem addr_add' (ad : Addr) (h : ad.spot = none) (j : Nat) : ad.add j = ⟨ad.block, ad.off + j, none⟩ := by
  obtain ⟨b, o, s⟩ := ad
  simp at h
  subst h
  unfold Addr.add
  split <;> simp_all
theorem copied {b q l n cap c : Nat} {X Y : List UInt8} {ad : Addr} {w : World} (h : Room b q l n cap X w) (hl : X.length = l) (hn : Y.length = n) (h1 : 1 ≤ n) (hs : ad.spot = none) (hY : BytesAt w ad.block ad.off Y) :
    ∃ W2, (Builtin.copy_ #[26, 26] 3 #[.slice (some ⟨q, l, none⟩) n (cap - l), .slice (some ad) n c]).run Tryf.prog w = .ok (goInt (n : Int)) W2 ∧ BufAt b (some q) (X ++ Y) W2 ∧ Kept [q] w W2 := by
  obtain ⟨lr, cur, hqb, hb, hq, hcs, hc, hm, ht⟩ := h
  have hl2 : (bytesV Y).length = n := by rw [bytesV_length]; exact hn
  have hr := run_copy_row (P := Tryf.prog) w 26 26 3 5 q l n (cap - l) ad n c cur 5 (bytesV Y) Tryf.underlying26 Tryf.size5' hq (by rw [hl2]; show n = min n n; omega) (fun j v hj => by rw [addr_add' ad hs]; exact hY j v hj) (by rw [hl2]; omega) (bytesV_one _)
  rw [hl2] at hr
  have hsz : (cur.toList.take l ++ bytesV Y ++ cur.toList.drop (l + n)).length = cap := by
    simp only [List.length_append, hl2, List.length_take, List.length_drop, Array.length_toList, hcs]; omega
  refine ⟨_, hr, ⟨lr, .inr ⟨q, cap, _, rfl, hqb, ?_, setRow_heap _ _ _ _ _ _ hq, ?_, ?_, hm, ?_, ?_⟩⟩, (Kept.refl _ w).setRow q (by simp) _⟩
  · rw [setRow_other _ _ _ _ hqb.symm, List.length_append, hl, hn]; exact hb
  · rw [List.size_toArray]; exact hsz
  · rw [List.length_append, hl, hn]; exact hc
  · show (cur.toList.take l ++ bytesV Y ++ cur.toList.drop (l + n)).take (X ++ Y).length = _
    rw [List.length_append, hl, hn, List.take_left' (by rw [List.length_append, hl2, List.length_take, Array.length_toList]; omega), ht, bytesV_append]
  · rw [List.length_append]; omega
theorem grow_any (b l cap n : Nat) (a : Option Addr) (lr : Int) (X : List UInt8) (w : World) (hb : w.heap[b]? = some (.cells #[.slice a l cap, .int .i64 0, .int .i8 lr] 34 (0, 0))) (hn : 1 ≤ n) (hlim : l + n ≤ 1073741824) (hr : cap < l + n)
    (ha : (a = none ∧ l = 0 ∧ cap = 0 ∧ X = []) ∨ ∃ g cur, a = some ⟨g, 0, none⟩ ∧ 1 ≤ l ∧ l ≤ cap ∧ w.heap[g]? = some (.cells cur 5 (0, 0)) ∧ cur.size = cap ∧ cur.toList.take l = bytesV X) :
    Calls Tryf.prog 48 #[.pointer (some ⟨b, 0, none⟩), .int .i64 n] w fun e w' => e = .returned (.int .i64 l) ∧ Grew b l n X w w' := by
  rcases ha with ⟨rfl, rfl, rfl, rfl⟩ | ⟨g, cur, rfl, h1, hlc, hg, hcs, ht⟩
  · by_cases h64 : n ≤ 64
    · exact grow_small b n lr w hb hn h64
    · refine grow_core b 0 0 n none lr [] w hb hn (by omega) (by omega) (by omega) (by omega) (fun _ => by omega) (.inl ⟨rfl, rfl, rfl⟩) (fun W hW => (growSlice_nil n W hn (by omega)).mono ?_)
      rintro e w' ⟨cap2, cells, h2, h3, h4, h5, h6, h7⟩
      exact ⟨cap2, cells, h2, h3, h4, by simp [bytesV], by omega, h6, h7⟩
  · refine grow_core b l cap n (some ⟨g, 0, none⟩) lr X w hb hn (by omega) hlc hr (by omega) (fun h => by cases h) (.inr ⟨g, rfl, h1⟩) (fun W hW => (growSlice_row g l cap n cur W (by rw [hW]; exact hg) hcs hlc hn (by omega) (by omega) (by rw [ht]; exact bytesV_one X)).mono ?_)
    rintro e w' ⟨cap2, cells, h2, h3, h4, h5, h6, h7, h8⟩
    exact ⟨cap2, cells, h2, h3, h4, h5.trans ht, h6, h7, h8⟩
set_option maxHeartbeats 4000000 in
set_option maxRecDepth 100000 in
theorem write_grow (b n c l cap : Nat) (a : Option Addr) (lr : Int) (g : Option Nat) (X Y : List UInt8) (ad : Addr) (w : World) (hb : w.heap[b]? = some (.cells #[.slice a l cap, .int .i64 0, .int .i8 lr] 34 (0, 0))) (hl : X.length = l)
    (hn : Y.length = n) (h1 : 1 ≤ n) (hs : ad.spot = none) (hab : ad.block ≠ b) (hY : BytesAt w ad.block ad.off Y) (hlim : l + n ≤ 1073741824) (hlc : l ≤ cap) (hr : cap < l + n)
    (ha : (a = none ∧ l = 0 ∧ cap = 0 ∧ X = []) ∨ ∃ g cur, g ≠ b ∧ a = some ⟨g, 0, none⟩ ∧ 1 ≤ l ∧ l ≤ cap ∧ w.heap[g]? = some (.cells cur 5 (0, 0)) ∧ cur.size = cap ∧ cur.toList.take l = bytesV X) :
    Calls Tryf.prog 45 #[.pointer (some ⟨b, 0, none⟩), .slice (some ad) n c] w fun e w' => e = .returned (.tuple #[.int .i64 n, .nilIface]) ∧ ∃ q, BufAt b (some q) (X ++ Y) w' ∧ (g = some q ∨ w.heap.size ≤ q) ∧ Kept (b :: g.toList) w w' := by
  have k2 : w.cell? ⟨b, 2, none⟩ = some (.int .i8 lr) := by rw [cell_at hb]; rfl
  have f2 := frozen_at hb 2
  have hb1 : (w.setCell ⟨b, 2, none⟩ (.int .i8 0)).heap[b]? = some (.cells #[.slice a l cap, .int .i64 0, .int .i8 0] 34 (0, 0)) := by simpa using heap_set hb 2 (.int .i8 0)
  have k0 : (w.setCell ⟨b, 2, none⟩ (.int .i8 0)).cell? ⟨b, 0, none⟩ = some (.slice a l cap) := by rw [cell_at hb1]; rfl
  have HKP := hide (show Kept (b :: g.toList) w (w.setCell ⟨b, 2, none⟩ (.int .i8 0)) from (Kept.refl _ w).setCell ⟨b, 2, none⟩ (by simp) _)
  have HY1 := hide (hY.of_heap (w' := w.setCell ⟨b, 2, none⟩ (.int .i8 0)) (Below.heap_setCell _ _ _ _ hab))
  have TG := fun W h => tryGrow_none b l cap n a W h hlc hr (by unfold maxLen; omega) (by omega)
  have GR := hide (grow_any b l cap n a 0 X (w.setCell ⟨b, 2, none⟩ (.int .i8 0)) hb1 h1 hlim hr (by
    rcases ha with h | ⟨g, cur, hgb, e1, e2, e3, e4, e5⟩
    · exact .inl h
    · exact .inr ⟨g, cur, e1, e2, e3, by rw [Below.heap_setCell _ _ _ _ hgb]; exact e4, e5⟩))
  clear hb hb1 hY ha
  have hsz : (w.setCell ⟨b, 2, none⟩ (.int .i8 0)).heap.size = w.heap.size := by simp
  have HSZ := hide hsz
  clear hsz
  go_enter Tryf.func45, Tryf.ntmps45
  go_wp2_with (first | (go_at_call 47; refine (TG _ k0).mono ?_; rintro e w' ⟨rfl, rfl⟩) | (go_at_call 48; refine GR.out.mono ?_))
  rintro e W1 ⟨rfl, lr2, q, cap2, cur2, hq1, hq2, hq3, hq4, hq5, hq6, hq7, hq8, hq9⟩
  obtain ⟨W2, hr2, hB, hK⟩ := copied (w := W1) (c := c) (Y := Y) (ad := ad) (X := X) (n := n) (l := l) (b := b) (q := q) (cap := cap2) ⟨lr2, cur2, hq2, hq3, hq4, hq5, hq6, hq7, hq8⟩ hl hn h1 hs (HY1.out.of_heap (hq9.block ad.block (by
    rcases Nat.lt_or_ge ad.block (w.setCell ⟨b, 2, none⟩ (.int .i8 0)).heap.size with h' | h'
    · exact h'
    · exfalso
      have := HY1.out 0 _ (by rw [bytesV, List.getElem?_map, List.getElem?_eq_getElem (by omega)]; rfl)
      have : ad.block < (w.setCell ⟨b, 2, none⟩ (.int .i8 0)).heap.size := World.block_lt_of_cell? _ ⟨ad.block, ad.off + 0, none⟩ this
      omega) (by simpa using hab)))
  have d0 : W1.cell? ⟨b, 0, none⟩ = some (.slice (some ⟨q, 0, none⟩) (l + n) cap2) := by rw [cell_at hq3]; rfl
  have HR := hide hr2
  have HB := hide hB
  have HK := hide hK
  have HK1 := hide hq9
  have HQ1 := hide hq1
  have hne : ¬ cap2 = l := by omega
  have hcap2 : cap2 ≤ 9223372036854775807 := by unfold maxLen at hq7; omega
  clear hr2 hB hK hq9 hq8 hq5 hq4 hq3 hq1 hq7
  go_wp2
  rw [HR.out]
  simp only [Result.andThen]
  rw [Oper.upon_value]
  go_wp2
  go_ret2
  refine ⟨rfl, q, HB.out, .inr (by have := HQ1.out; have := HSZ.out; omega), ?_⟩
  refine (HKP.out.trans_new HK1.out (fun x hx => .inl (by simp at hx; simp [hx]))).trans_new HK.out (fun x hx => .inr ?_)
  simp at hx
  subst hx
  have := HQ1.out; have := HSZ.out; omega
set_option maxHeartbeats 4000000 in
set_option maxRecDepth 100000 in
theorem write_any (b n c : Nat) (g : Option Nat) (X Y : List UInt8) (ad : Addr) (w : World) (h : BufAt b g X w) (hn : Y.length = n) (h1 : 1 ≤ n) (hs : ad.spot = none) (hab : ad.block ≠ b) (hY : BytesAt w ad.block ad.off Y) (hlim : X.length + n ≤ 1073741824) :
    Calls Tryf.prog 45 #[.pointer (some ⟨b, 0, none⟩), .slice (some ad) n c] w fun e w' => e = .returned (.tuple #[.int .i64 n, .nilIface]) ∧ ∃ q, BufAt b (some q) (X ++ Y) w' ∧ (g = some q ∨ w.heap.size ≤ q) ∧ Kept (b :: g.toList) w w' := by
  obtain ⟨l, hl⟩ : ∃ l, X.length = l := ⟨_, rfl⟩
  obtain ⟨lr, h⟩ := h
  have hb : ∃ v, w.heap[b]? = some (.cells #[v, .int .i64 0, .int .i8 lr] 34 (0, 0)) := by
    rcases h with ⟨_, _, hb⟩ | ⟨q, cap, cur, _, _, hb, _⟩
    · exact ⟨_, hb⟩
    · exact ⟨_, hb⟩
  obtain ⟨v, hb⟩ := hb
  have k2 : w.cell? ⟨b, 2, none⟩ = some (.int .i8 lr) := by rw [cell_at hb]; rfl
  have f2 := frozen_at hb 2
  have hbw := lt_of_block hb
  have HY := hide hY
  -- behind the first store
  have hb1 := heap_set hb 2 (.int .i8 0)
  have hb1' : (w.setCell ⟨b, 2, none⟩ (.int .i8 0)).heap[b]? = some (.cells #[v, .int .i64 0, .int .i8 0] 34 (0, 0)) := by simpa using hb1
  have hkp : Kept (b :: g.toList) w (w.setCell ⟨b, 2, none⟩ (.int .i8 0)) := (Kept.refl _ w).setCell ⟨b, 2, none⟩ (by simp) _
  have hY1 : BytesAt (w.setCell ⟨b, 2, none⟩ (.int .i8 0)) ad.block ad.off Y := hY.of_heap (Below.heap_setCell _ _ _ _ hab)
  -- how it goes on behind the making of room
  rcases h with ⟨rfl, rfl, hb2⟩ | ⟨q, cap, cur, rfl, hqb, hb2, hq, hcs, hlc, hcm, htk, hx1⟩
  · refine write_grow b n c 0 0 none lr none [] Y ad w hb2 rfl hn h1 hs hab hY (by simpa using hlim) (by omega) (by omega) (.inl ⟨rfl, rfl, rfl, rfl⟩)
  · rw [hl] at hb2 hlc htk hx1
    by_cases hroom : l + n ≤ cap
    · have e : v = .slice (some ⟨q, 0, none⟩) l cap := by
        rw [hb] at hb2
        simp at hb2
        exact hb2
      subst e
      have TG := fun W h f => tryGrow_room b l cap n (some ⟨q, 0, none⟩) W h f hroom hcm
      have k0 : (w.setCell ⟨b, 2, none⟩ (.int .i8 0)).cell? ⟨b, 0, none⟩ = some (.slice (some ⟨q, 0, none⟩) l cap) := by rw [cell_at hb1']; rfl
      have f0 := frozen_at hb1' 0
      obtain ⟨W2, hr, hB, hK⟩ := copied (w := (w.setCell ⟨b, 2, none⟩ (.int .i8 0)).setCell ⟨b, 0, none⟩ (.slice (some ⟨q, 0, none⟩) (l + n) cap)) (c := c) (Y := Y) (ad := ad) (X := X) (n := n) (l := l) (b := b) (q := q) (cap := cap)
        ⟨0, cur, hqb, by simpa using heap_set hb1' 0 (.slice (some ⟨q, 0, none⟩) (l + n) cap), by rw [Below.heap_setCell _ _ _ _ hqb, Below.heap_setCell _ _ _ _ hqb]; exact hq, hcs, hroom, hcm, htk⟩ hl hn h1 hs (hY1.of_heap (Below.heap_setCell _ _ _ _ hab))
      have hd0 : ((w.setCell ⟨b, 2, none⟩ (.int .i8 0)).setCell ⟨b, 0, none⟩ (.slice (some ⟨q, 0, none⟩) (l + n) cap)).cell? ⟨b, 0, none⟩ = some (.slice (some ⟨q, 0, none⟩) (l + n) cap) := by
        rw [cell_at (heap_set hb1' 0 (.slice (some ⟨q, 0, none⟩) (l + n) cap))]; rfl
      have HR := hide hr
      have HB := hide hB
      have HK := hide hK
      have HKP := hide hkp
      have hne : ¬ cap = l := by omega
      have hcap2 : cap ≤ 9223372036854775807 := by unfold maxLen at hcm; omega
      clear hr hB hK hkp hb hb1 hb1' hb2 hq hY hY1 htk
      go_enter Tryf.func45, Tryf.ntmps45
      go_wp2_with (go_at_call 47; refine (TG _ k0 f0).mono ?_; rintro e w' ⟨rfl, rfl⟩)
      rw [HR.out]
      simp only [Result.andThen]
      rw [Oper.upon_value]
      go_wp2
      go_ret2
      refine ⟨rfl, q, HB.out, .inl rfl, ?_⟩
      exact (HKP.out.setCell ⟨b, 0, none⟩ (by simp) _).trans_new HK.out (fun x hx => .inl (by simp at hx; simp [hx]))
    · exact write_grow b n c l cap (some ⟨q, 0, none⟩) lr (some q) X Y ad w hb2 hl hn h1 hs hab hY (by omega) hlc (by omega) (.inr ⟨q, cur, hqb, rfl, hx1, hlc, hq, hcs, htk⟩)
end Go.Proofs.Qxb6616519aFmt
