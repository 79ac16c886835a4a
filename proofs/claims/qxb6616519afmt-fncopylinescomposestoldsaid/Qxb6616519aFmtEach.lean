/-
  'eachLine' with the closure of 'CopyLines'.
-/
import Derived.Test.Qxb6616519aFmtLoop
namespace Go.Proofs.Qxb6616519aFmt
set_option linter.unusedVariables false
open Go.RowKit
theorem eqGuard_iface (t : TypeId) (x y : Operand) (a : Value) (u : TypeId) (v : Value) : eqGuard .eql t x y a (.iface u v) = pure () := by cases a <;> rfl
theorem neqGuard_iface (t : TypeId) (x y : Operand) (a : Value) (u : TypeId) (v : Value) : eqGuard .neq t x y a (.iface u v) = pure () := by cases a <;> rfl
def isAt (a : Addr) : Value → Nat
  | .iface _ (.pointer (some a')) => if a' = a then 1 else 0
  | _ => 0
def lenOf' : Value → Nat
  | .slice _ n _ => n
  | _ => 0
theorem nl_drop : ∀ {l : List UInt8} {m : Nat}, m ≤ nl l → nl (l.drop m) = nl l - m
  | _, 0, _ => by simp
  | [], m + 1, h => by simp [nl] at h
  | c :: l, m + 1, h => by
    unfold nl at h ⊢
    rw [List.takeWhile_cons] at h ⊢
    split at h
    · rename_i hc
      rw [List.drop_succ_cons, if_pos hc, List.length_cons, Nat.add_sub_add_right]
      rw [List.length_cons] at h
      exact nl_drop (l := l) (m := m) (by unfold nl; omega)
    · simp at h
theorem own_view {w : World} {B m : Nat} {v : Value} {xs : List Value} (h : w.ownsRow B 5 1 v m xs) : ∃ ao cp, v = .slice ao m cp ∧ m ≤ cp ∧ cp ≤ maxLen ∧ w.ownsRow B 5 1 (.slice ao 0 cp) 0 [] ∧ (Value.slice ao 0 cp).ownBlock = v.ownBlock := by
  rcases h.2 with ⟨rfl, rfl⟩ | ⟨g, cap, cur, rfl, e1, e2, e3, e4, e5, e6⟩
  · exact ⟨none, 0, rfl, by omega, by omega, World.ownsRow_nil _ _ _ _, rfl⟩
  · exact ⟨_, cap, rfl, e3, e4, ⟨rfl, .inr ⟨g, cap, cur, rfl, e1, e2, by omega, e4, e5, by simp⟩⟩, rfl⟩
theorem own_bytes {w : World} {B m : Nat} {v : Value} {Y : List UInt8} (h : w.ownsRow B 5 1 v m (bytesV Y)) (hm : 1 ≤ m) : ∃ q cp, v = .slice (some ⟨q, 0, none⟩) m cp ∧ m ≤ cp ∧ BytesAt w q 0 Y ∧ ∃ cs f, w.heap[q]? = some (.cells cs 5 f) := by
  rcases h.2 with ⟨rfl, rfl⟩ | ⟨g, cap, cur, rfl, e1, e2, e3, e4, e5, e6⟩
  · omega
  · refine ⟨g, cap, rfl, e3, fun j v hj => ?_, _, _, e2⟩
    rw [cell_at e2, ← Array.getElem?_toList]
    rw [← e6, List.getElem?_take] at hj
    split at hj
    · rw [Nat.zero_add]; exact hj
    · cases hj
/-- What stands behind the reading of one line L.take k. -/
structure GotLine (aE : Addr) (L : List UInt8) (k cap : Nat) (ad : Addr) (ev9 : Value) (w : World) : Prop where
  spot : ad.spot = none
  bytes : BytesAt w ad.block ad.off (L.take k)
  kcap : k ≤ cap
  kind : (ev9 = .nilIface ∧ nl L < L.length ∧ k = nl L + 1) ∨ (ev9 = .iface 67 (.pointer (some aE)) ∧ k = L.length ∧ nl L = L.length)
  row : ∃ cs f, w.heap[ad.block]? = some (.cells cs 5 f)
theorem each_num {n q k s l x e e' x' : Nat} (hT : s ≤ 1048576) (hk1 : 1 ≤ k) (hkl : k ≤ l) (hn1 : n ≤ q) (hn2 : x ≤ q) (hn3 : q ≤ s) (hn4 : e ≤ 1048576) (hLl : l = s - q) (hs1 : e' ≤ e) (hs2 : x' ≤ x + k) :
    n + 1 ≤ q + k ∧ x' ≤ q + k ∧ q + k ≤ s ∧ e' ≤ 1048576 := ⟨by omega, by omega, by omega, by omega⟩
theorem each_meas {n q k s l : Nat} (hT : s ≤ 1048576) (hk1 : 1 ≤ k) (hkl : k ≤ l) (hn1 : n ≤ q) (hn3 : q ≤ s) (hLl : l = s - q) : wrap64 ((n : Int) + 1 + 1) = ((n + 1 : Nat) : Int) + 1 ∧ s + 2 - (((n + 1 : Nat) : Int) + 1).toNat < s + 2 - ((n : Int) + 1).toNat := by
  refine ⟨by unfold wrap64; omega, by omega⟩
theorem each_next {B Nn Ne Nw b R S K : Nat} {T : ByteArray} {L : List UInt8} {q n k : Nat} {g5 : Option Nat} {ev : List Int} {X : List UInt8} {fin : List Int × List UInt8} {vl : Value} {w w5 : World} (hTl : T.data.toList.length = T.size) (hT : T.size ≤ 1048576) (hLd : T.data.toList.drop q = L) (hkk : k = lk L) (hk1 : 1 ≤ k) (hkl : k ≤ L.length)
    (hF : runL n (lines (T.data.toList.drop q)) (ev, X) = fin) (hI : n ≤ q ∧ X.length ≤ q ∧ q ≤ T.size ∧ ev.length ≤ 1048576) (hL5 : LoopAt B Nn Ne Nw b R S K T (q + k) (n + 1) g5 (stepC n (L.take k) (ev, X)).1 (stepC n (L.take k) (ev, X)).2 vl w5) (hB5 : Below B w w5) :
    (∃ (q' n' : Nat) (g : Option Nat) (ev : List Int) (X : List UInt8), Value.int .i64 (wrap64 ((n : Int) + 1 + 1)) = .int .i64 ((n' : Int) + 1) ∧ Hid (LoopAt B Nn Ne Nw b R S K T q' n' g ev X vl w5) ∧ Hid (Below B w w5) ∧ Hid (runL n' (lines (T.data.toList.drop q')) (ev, X) = fin) ∧ Hid (n' ≤ q' ∧ X.length ≤ q' ∧ q' ≤ T.size ∧ ev.length ≤ 1048576)) ∧
      T.size + 2 - (intOf (.int .i64 (wrap64 ((n : Int) + 1 + 1)))).toNat < T.size + 2 - (intOf (.int .i64 ((n : Int) + 1))).toNat := by
  obtain ⟨hn1, hn2, hn3, hn4⟩ := hI
  have hLl : L.length = T.size - q := by rw [← hLd, List.length_drop, hTl]
  obtain ⟨hw, hms⟩ := each_meas hT hk1 hkl hn1 hn3 hLl
  have hst := stepC_len n (L.take k) (ev, X)
  have hYl : (L.take k).length = k := by rw [List.length_take]; exact Nat.min_eq_left hkl
  have hLne : L ≠ [] := fun e => by rw [e] at hkl; exact absurd (Nat.le_trans hk1 hkl) (by decide)
  rw [hYl] at hst
  have hA : Value.int .i64 (wrap64 ((n : Int) + 1 + 1)) = .int .i64 (((n + 1 : Nat) : Int) + 1) := by rw [hw]
  have hD := each_num hT hk1 hkl hn1 hn2 hn3 hn4 hLl hst.1 hst.2
  have hR : runL (n + 1) (lines (T.data.toList.drop (q + k))) ((stepC n (L.take k) (ev, X)).1, (stepC n (L.take k) (ev, X)).2) = fin := by
    have e : ((stepC n (L.take k) (ev, X)).1, (stepC n (L.take k) (ev, X)).2) = stepC n (L.take k) (ev, X) := rfl
    rw [hLd, lines_cons hLne, runL, ← hkk] at hF
    rw [e, ← List.drop_drop, hLd, hF]
  have hM : T.size + 2 - (intOf (.int .i64 (wrap64 ((n : Int) + 1 + 1)))).toNat < T.size + 2 - (intOf (.int .i64 ((n : Int) + 1))).toNat := by
    rw [hw]
    exact hms
  exact ⟨⟨q + k, n + 1, g5, _, _, hA, hide hL5, hide hB5, hide hR, hide hD⟩, hM⟩
set_option maxHeartbeats 8000000 in
set_option maxRecDepth 100000 in
theorem each_any (B Nn Ne Nw b S : Nat) (g0 : Option Nat) (T : ByteArray) (ev0 : List Int) (aE aF : Addr) (fin : List Int × List UInt8) (w : World) (hC : CopyAt B Nn Ne Nw b g0 0 ev0 [] w) (hS : StrAt S T 0 w) (hBS : B ≤ S) (hT : T.size ≤ 1048576) (hev : ev0.length ≤ 1048576) (hE : Errs B aE aF w)
    (hfin : runL 0 (lines T.data.toList) (ev0, []) = fin) (hg0 : g0 = none) :
    Calls Tryf.prog 13 #[.iface 39 (.pointer (some ⟨S, 0, none⟩)), .func (.func 14) #[] #[.pointer (some ⟨Nn, 0, none⟩), .pointer (some ⟨Ne, 0, none⟩), .pointer (some ⟨Nw, 0, none⟩)]] w fun e w' => e = .returned .nilIface ∧
      ∃ g' n', CopyAt B Nn Ne Nw b g' n' fin.1 fin.2 w' ∧ Below B w w' ∧ n' ≤ 1048576 := by
  have NR := hide (newReader_buf S T w hS)
  have HC := hide hC
  have HS := hide hS
  have HE := hide hE
  have HF := hide hfin
  have hBw : B ≤ w.heap.size := Nat.le_trans hC.bn (Nat.le_of_lt (lt_of_block hC.cn))
  have hTl : T.data.toList.length = T.size := by rw [Array.length_toList]; rfl
  clear hC hS hE hfin
  obtain ⟨R, hR⟩ : ∃ R, w.heap.size = R := ⟨_, rfl⟩
  have HR := hide hR
  rw [hR] at NR
  clear hR
  go_enter Tryf.func13, Tryf.ntmps13
  go_wp2_with (go_at_call 16; refine NR.out.mono ?_; rintro e w1 ⟨rfl, hRd, hBl⟩; replace hRd := hide hRd; replace hBl := hide hBl)
  go_loopw [6, 7] (fun s6 s7 wr => ∃ (q n : Nat) (g : Option Nat) (ev : List Int) (X : List UInt8), s7 = .int .i64 ((n : Int) + 1) ∧ Hid (LoopAt B Nn Ne Nw b R S (R + 1) T q n g ev X s6 wr) ∧ Hid (Below B w wr) ∧ Hid (runL n (lines (T.data.toList.drop q)) (ev, X) = fin) ∧ Hid (n ≤ q ∧ X.length ≤ q ∧ q ≤ T.size ∧ ev.length ≤ 1048576)) (fun _ s7 _ => T.size + 2 - (intOf s7).toNat)
  case atStart =>
    refine ⟨0, 0, g0, ev0, [], rfl, ?_, hBl.out.mono (by have := HR.out; omega), ?_, ?_⟩
    · have hb : ∀ k, k < w.heap.size → w1.heap[k]? = w.heap[k]? := fun k hk => hBl.out.block k (by have := HR.out; omega)
      obtain ⟨v, he, hE⟩ := HC.out.ce
      obtain ⟨⟨cs, hbb⟩, _⟩ := buf_tag HC.out.buf
      subst hg0
      exact ⟨HC.out.kept (hBl.out.mono (by have := HR.out; omega)) (hb _ (lt_of_block HC.out.cn)) (hb _ (lt_of_block he)) (hb _ (lt_of_block HC.out.cw)) (hb _ (lt_of_block hbb)) (fun q hq => by cases hq), ⟨0, 0, 0, hRd.out, rfl⟩, ⟨0, [], World.ownsRow_nil _ _ _ _⟩, by simp, by simp [Value.ownBlock], fun ql h => by simp [Value.ownBlock] at h, by have := HR.out; omega, hBS, by have := HR.out; omega⟩
    · show _ = _
      rw [List.drop_zero]; exact HF.out
    · exact ⟨Nat.le_refl _, by simp, by omega, hev⟩
  case round =>
    clear HF HC hRd hBl
    obtain ⟨q, n, g, ev, X, rfl, HL, HB, HF, HI⟩ := hrel
    obtain ⟨L, HLd⟩ : ∃ L, Hid (T.data.toList.drop q = L) := ⟨_, rfl⟩
    obtain ⟨r, x, p, hRd, hq⟩ := HL.out.rd
    have hEw := HE.out.below HB.out
    have h2 := HE.out.two
    have RS := hide (readSlice_any R S (R + 1) r x p q T L (.iface 67 (.pointer (some aE))) (.iface 67 (.pointer (some aF))) wr hRd hq HLd.out (by omega) hEw.cE hEw.cF ⟨_, _, rfl⟩ ⟨_, _, rfl⟩ (by have := HL.out.bR; have := HL.out.bS; omega) (by have := HL.out.bR; have := HL.out.bS; omega))
    have e1 := eqGuard_iface
    have e2 := neqGuard_iface
    clear hRd hq hEw
    go_upto_region 6 with (go_at_call 17; refine RS.out.mono ?_; rintro e w1 ⟨ad, len, cap, ev1, r', x', p', rfl, hr1, hq1, hk1, hab, has, hlc, hl4, hby, hkd⟩; replace hr1 := hide hr1; replace hq1 := hide hq1; replace hk1 := hide hk1; replace hby := hide hby; replace hkd := hide hkd)
    clear RS
    have HL1 := hide (HL.out.read hk1.out ⟨_, _, _, hr1.out, hq1.out⟩)
    have HB1 := hide (HB.out.trans HL1.out.2)
    have hE1 := HE.out.below HB1.out
    have HE1 := hide hE1
    have cF1 := hE1.cF
    have cE1 := hE1.cE
    obtain ⟨fb, hfb, HFB⟩ : ∃ fb, (binOp .eql 36 ev1 (.iface 67 (.pointer (some aF)))).run Tryf.prog w1 = .ok (.bool fb) w1 ∧ Hid ((fb = true ∧ ev1 = .iface 67 (.pointer (some aF)) ∧ len = 4096 ∧ 4096 ≤ nl L) ∨ (fb = false ∧ ((ev1 = .nilIface ∧ nl L < L.length ∧ len = nl L + 1) ∨ (ev1 = .iface 67 (.pointer (some aE)) ∧ len = L.length ∧ nl L = L.length)))) := by
      rcases hkd.out with ⟨rfl, a1, a2⟩ | ⟨rfl, a1, a2⟩ | ⟨rfl, a1, a2⟩
      · exact ⟨false, Tryf.eqlNil _ _, .inr ⟨rfl, .inl ⟨rfl, a1, a2⟩⟩⟩
      · exact ⟨true, Tryf.eqlSame _ _, .inl ⟨rfl, rfl, a1, a2⟩⟩
      · exact ⟨false, hE1.eqlOther, .inr ⟨rfl, .inr ⟨rfl, a1, a2⟩⟩⟩
    clear hkd hE1
    go_upto_if 22 with fail
    go_cut [6, 8, 9] from 20 to 38 (fun s6 s8 s9 wx => ∃ (k cp : Nat) (a8 : Addr), s8 = .slice (some a8) k cp ∧ Hid (LoopAt B Nn Ne Nw b R S (R + 1) T (q + k) n g ev X s6 wx) ∧ Hid (GotLine aE L k cp a8 s9 wx) ∧ Hid (Below B w wx))
    case first =>
      cases fb with
      | false =>
        go_wp2_with fail
        go_meet
        have hk' := HFB.out.resolve_left (fun h => by cases h.1)
        obtain ⟨kc, hkc, _⟩ := hr1.out.row
        exact ⟨len, cap, ad, rfl, HL1.out.1, ⟨has, by rw [hab]; exact hby.out, hlc, hk'.2, ⟨_, _, by rw [hab]; exact hkc⟩⟩, HB1⟩
      | true =>
        obtain ⟨-, rfl, rfl, hnl⟩ := HFB.out.resolve_right (fun h => by cases h.1)
        obtain ⟨m0, xs0, ho0⟩ := HL1.out.1.lg
        obtain ⟨ao, cp0, rfl, hmc, hcm, ho1, hob⟩ := own_view ho0
        have HO1 := hide ho1
        have HOB := hide hob
        obtain ⟨i0, hi, hz0, hz1, hz2⟩ := info_parts Tryf.info5
        have hLl : L.length = T.size - q := by rw [← HLd.out, List.length_drop, hTl]
        have hnle := nl_le L
        have HNW : Hid (∀ j u, (bytesV (L.take 4096))[j]? = some u → w1.cell? (ad.add j) = some u) := fun j u hj => by
          rw [addr_add' ad has, hab]; exact hby.out j u hj
        have hcm' : cp0 ≤ 9223372036854775807 := by unfold maxLen at hcm; omega
        have hbw1 : Hid (B ≤ w1.heap.size) := Nat.le_trans hBw HB1.out.size
        clear ho0 ho1 hob hcm
        go_wp2_with (at_builtin; refine wpList_append_own2 _ rfl (.tmp 24) (.tmp 25) 26 rfl B 5 i0 (.int .u8 0) 1 1 Tryf.underlying26 hi hz0 hz1 hz2 rfl (by decide) _ 0 [] rfl HO1.out ad 4096 cap (bytesV (L.take 4096)) rfl (by rw [bytesV_length, List.length_take]; omega) HNW.out (bytesV_one _) (by unfold maxLen; omega) (by omega) hbw1.out ?_; intro v' w2 ho2 hg2 _ hv2; replace ho2 := hide ho2; replace hg2 := hide hg2; replace hv2 := hide hv2)
        have HL2 := hide (HL1.out.1.grow HOB.out hg2.out _ _ ho2.out hv2.out)
        have HB2 := hide (HB1.out.trans HL2.out.2)
        go_loopw [6, 8, 9] (fun s6 s8 s9 wi => ∃ m : Nat, Hid (LoopAt B Nn Ne Nw b R S (R + 1) T (q + m) n g ev X s6 wi) ∧ Hid (wi.ownsRow B 5 1 s6 m (bytesV (L.take m))) ∧ Hid (Below B w wi) ∧ m ≤ L.length ∧ 1 ≤ m ∧ Hid ((s9 = .iface 67 (.pointer (some aF)) ∧ m ≤ nl L) ∨ (s9 = .nilIface ∧ nl L < L.length ∧ m = nl L + 1) ∨ (s9 = .iface 67 (.pointer (some aE)) ∧ m = L.length ∧ nl L = L.length))) (fun s6 _ s9 _ => 2 * (L.length - lenOf' s6) + isAt aF s9)
        case atStart => exact ⟨4096, HL2.out.1, hide (by have := ho2.out; simpa using this), HB2, by omega, by omega, .inl ⟨rfl, hnl⟩⟩
        case round =>
          clear HL2 HB2 ho2 hg2 hv2 HNW HO1 HOB HL1 hk1 hr1 hq1 hby HB1 cF1 cE1 HE1 hfb HFB
          obtain ⟨m, HLi, HOi, HBi, hmL, hm1, HKi⟩ := hrel
          have hEi := HE.out.below HBi.out
          have cFi := hEi.cF
          rcases HKi.out with ⟨rfl, hmn⟩ | hdone
          · have eq1 := Tryf.eqlSame
            obtain ⟨r, x, p, hRd, hq⟩ := HLi.out.rd
            obtain ⟨L2, HLd2⟩ : ∃ L2, Hid (L.drop m = L2) := ⟨_, rfl⟩
            have RS := hide (readSlice_any R S (R + 1) r x p (q + m) T L2 (.iface 67 (.pointer (some aE))) (.iface 67 (.pointer (some aF))) wr hRd hq (by rw [← HLd2.out, ← HLd.out, List.drop_drop]) (by omega) hEi.cE hEi.cF ⟨_, _, rfl⟩ ⟨_, _, rfl⟩ (by have := HLi.out.bR; have := HLi.out.bS; omega) (by have := HLi.out.bR; have := HLi.out.bS; omega))
            have hnd : nl L2 = nl L - m := by rw [← HLd2.out]; exact nl_drop hmn
            have hl2 : L2.length = L.length - m := by rw [← HLd2.out, List.length_drop]
            have HND := hide hnd
            have HL2l := hide hl2
            clear hRd hq hEi hnd hl2
            go_upto_region 10 with (go_at_call 17; refine RS.out.mono ?_; rintro e w3 ⟨ad2, len2, cap2, ev2, r', x', p', rfl, hr1, hq1, hk1, hab2, has2, hlc2, hl42, hby, hkd⟩; replace hr1 := hide hr1; replace hq1 := hide hq1; replace hk1 := hide hk1; replace hby := hide hby; replace hkd := hide hkd)
            have HL3 := hide (HLi.out.read hk1.out ⟨_, _, _, hr1.out, hq1.out⟩)
            have HO3 : Hid (w3.ownsRow B 5 1 u6 m (bytesV (L.take m))) := by
              obtain ⟨r0, x0, p0, hR0, _⟩ := HLi.out.rd
              obtain ⟨lb, lr, e1'⟩ := hR0.red
              obtain ⟨pr, e2'⟩ := hR0.str
              refine owns_kept HOi.out (fun k hk => hk1.out.block k ?_ ?_)
              · rcases HOi.out.2 with ⟨rfl, _⟩ | ⟨g', c', cur, rfl, _, e5, _⟩
                · simp [Value.ownBlock] at hk
                · simp [Value.ownBlock] at hk
                  subst hk
                  exact lt_of_block e5
              · have a1 := owns_tag HOi.out e1' (by decide)
                have a2 := owns_tag HOi.out e2' (by decide)
                have a3 := HLi.out.vK
                rw [hk] at a1 a2 a3
                simp at a1 a2 a3 ⊢
                exact ⟨a1, a2, a3⟩
            have HB3 := hide (HBi.out.trans HL3.out.2)
            have HNW : Hid (∀ j u, (bytesV (L2.take len2))[j]? = some u → w3.cell? (ad2.add j) = some u) := fun j u hj => by
              rw [addr_add' ad2 has2, hab2]; exact hby.out j u hj
            have hbw3 : Hid (B ≤ w3.heap.size) := Nat.le_trans hBw HB3.out.size
            have hlen2 : len2 ≤ L2.length := by
              have := nl_le L2
              rcases hkd.out with ⟨_, a1, a2⟩ | ⟨_, a1, a2⟩ | ⟨_, a1, a2⟩ <;> omega
            have hLT : L.length ≤ 1048576 := by omega
            go_wp2_with (at_builtin; refine wpList_append_own2 _ rfl (.tmp 35) (.tmp 36) 26 rfl B 5 i0 (.int .u8 0) 1 1 Tryf.underlying26 hi hz0 hz1 hz2 rfl (by decide) _ m (bytesV (L.take m)) rfl HO3.out ad2 len2 cap2 (bytesV (L2.take len2)) rfl (by rw [bytesV_length, List.length_take]; omega) HNW.out (bytesV_one _) (by have := HL2l.out; unfold maxLen; omega) (by have := HL2l.out; omega) hbw3.out ?_; intro v' w4 ho4 hg4 _ hv4; replace ho4 := hide ho4; replace hg4 := hide hg4; replace hv4 := hide hv4)
            go_roundw
            case rel =>
              have hL4 := HL3.out.1.grow rfl hg4.out _ _ ho4.out hv4.out
              have hl2 := HL2l.out
              have hnd := HND.out
              refine ⟨m + len2, by rw [← Nat.add_assoc]; exact hL4.1, ?_, HB3.out.trans hL4.2, by omega, by omega, ?_⟩
              · have := ho4.out
                rw [← bytesV_append, ← HLd2.out, ← List.take_add] at this
                exact this
              · rcases hkd.out with ⟨rfl, a1, a2⟩ | ⟨rfl, a1, a2⟩ | ⟨rfl, a1, a2⟩
                · exact .inr (.inl ⟨rfl, by omega, by omega⟩)
                · exact .inl ⟨rfl, by omega⟩
                · exact .inr (.inr ⟨rfl, by omega, by omega⟩)
            case measure =>
              have hl2 := HL2l.out
              have hv6 : lenOf' u6 = m := by obtain ⟨ao, cp, rfl, _⟩ := own_view HO3.out; rfl
              have hv4' : lenOf' v' = m + len2 := by obtain ⟨ao, cp, rfl, _⟩ := own_view ho4.out; rfl
              rw [hv6, hv4']
              have hne := HE.out.ne
              rcases hkd.out with ⟨rfl, a1, a2⟩ | ⟨rfl, a1, a2⟩ | ⟨rfl, a1, a2⟩
              · simp [isAt]; omega
              · simp [isAt]; omega
              · simp [isAt, hne]; omega
          · obtain ⟨gq, cpq, hsl, hmcq, hbq, hrq⟩ := own_bytes HOi.out hm1
            subst hsl
            have hfin9 : (binOp .eql 36 u9 (.iface 67 (.pointer (some aF)))).run Tryf.prog wr = .ok (.bool false) wr := by
              rcases hdone with ⟨rfl, _⟩ | ⟨rfl, _⟩
              · exact Tryf.eqlNil _ _
              · exact hEi.eqlOther
            have HD := hide hdone
            have HBQ := hide hbq
            have HRQ := hide hrq
            clear hdone hbq hrq hEi
            go_wp2_with fail
            go_meet
            exact ⟨m, cpq, ⟨gq, 0, none⟩, rfl, HLi, ⟨rfl, HBQ.out, hmcq, HD.out, HRQ.out⟩, HBi⟩
    case rest =>
    clear HL1 hk1 hr1 hq1 hby HB1 cF1 cE1 HE1 hfb HFB
    obtain ⟨k, cp, a8, rfl, HLc, HG, HBc⟩ := hcut
    have hEc := HE.out.below HBc.out
    have cEc := hEc.cE
    have eq1 := Tryf.eqlNil
    have eq2 := Tryf.eqlSame
    have eq3 := Tryf.neqSame
    have eq4 := Tryf.neqNil
    have hLl : L.length = T.size - q := by rw [← HLd.out, List.length_drop, hTl]
    obtain ⟨hn1, hn2, hn3, hn4⟩ := HI.out
    obtain ⟨vE, hve, _⟩ := HLc.out.cp.ce
    obtain ⟨⟨csb, hvb⟩, _⟩ := buf_tag HLc.out.cp.buf
    obtain ⟨csr, fr, hrow⟩ := HG.out.row
    by_cases hk0 : k = 0
    · rcases HG.out.kind with ⟨_, _, a2⟩ | ⟨rfl, a1, a2⟩
      · omega
      · have hLn : L = [] := List.length_eq_zero_iff.1 (by omega)
        subst hk0
        have HLn := hide hLn
        clear hve hvb hrow a1 a2 hLn hLl hn1 hn2 hn3 hn4
        go_wp2
        go_ret
        refine ⟨rfl, g, n, ?_, HBc.out, by have := HI.out; omega⟩
        have := HF.out
        rw [HLd.out, HLn.out, lines_nil] at this
        rw [← this]
        exact HLc.out.cp
    · have hkk : k = lk L := by
        unfold lk
        rcases HG.out.kind with ⟨_, a1, a2⟩ | ⟨_, a1, a2⟩
        · rw [if_pos a1]; exact a2
        · rw [if_neg (by omega)]; exact a1
      have hkl : k ≤ L.length := by rw [hkk]; exact lk_le L
      have hYl : (L.take k).length = k := by rw [List.length_take]; omega
      have ST := hide (step_any B Nn Ne Nw b n k cp g ev X (L.take k) a8 wc HLc.out.cp (by omega) hYl (by omega) HG.out.spot (ne_tag hrow hvb (by decide)) (ne_tag hrow HLc.out.cp.cn (by decide)) (ne_tag hrow hve (by decide)) HG.out.bytes (by omega) (by omega))
      have hk0' : ((k : Int) == 0) = false := by simp; omega
      have HLk := hide hkk
      have HKD := hide HG.out.kind
      clear hve hvb hrow hkk hYl hLl hn1 hn2 hn3 hn4
      rcases HKD.out with ⟨rfl, -, -⟩ | ⟨rfl, -, -⟩
      all_goals
        go_wp2_with (go_at_call 14; refine ST.out.mono ?_; rintro e w5 ⟨rfl, g5, hc5, hg5, hk5⟩; replace hc5 := hide hc5; replace hg5 := hide hg5; replace hk5 := hide hk5)
        exact each_next hTl hT HLd.out HLk.out (by omega) hkl HF.out HI.out (HLc.out.line hk5.out hc5.out hg5.out).1 (HBc.out.trans (HLc.out.line hk5.out hc5.out hg5.out).2)
end Go.Proofs.Qxb6616519aFmt
