/-
  ZZnewSecrets.
-/
import Derived.Test.Qxb6616271aCover
import Derived.Deep.RegionLaw
namespace Go.Proofs.Qxb6616271a
set_option linter.unusedVariables false
open Go.RowKit
theorem Try.info49 : (Try.prog.info? 49).map (fun i => (i.zero, i.size, i.bytes)) = some (some (.agg #[.string ⟨#[]⟩, .string ⟨#[]⟩]), 2, 32) := by kernel_rfl
/-- append onto a row of the call's own, as one step of a region that draws. -/
theorem step_append_own {P : Program} {ops : Array Oper} {o : Oper} {a : Act} {w : World} {K : Act → World → Prop} {Q : Exit → Act → World → Prop} {E : Prop} (hgd : o.guard = none) (s x : Operand) (t : TypeId)
    (ho : o.op = .call { callee := .builtin .append, args := #[s, x], argTypes := #[t, t] })
    (base : Nat) (e : TypeId) (i : TypeInfo) (z : Value) (size bytes : Nat) (ht : P.underlying t = some (.slice e)) (hi : P.info? e = some i) (hz : i.zero = some z)
    (hsize : i.size = size) (hby : i.bytes = bytes) (hzs : z.cells.size = size) (hsz : 0 < size)
    (v : Value) (n : Nat) (xs : List Value) (hs : a.eval s = v) (hown : w.ownsRow base e size v n xs)
    (ad : Addr) (m c : Nat) (news : List Value) (hx : a.eval x = .slice (some ad) m c) (hl : news.length = m * size) (hnews : ∀ j u, news[j]? = some u → w.cell? (ad.add j) = some u) (h1 : ∀ u ∈ news, u.oneCell' = true)
    (h63 : n + m ≤ maxLen) (hbytes : (n + m) * bytes ≤ 140737488355328) (hbase : base ≤ w.heap.size)
    (h : ∀ v' w', w'.ownsRow base e size v' (n + m) (xs ++ news) → w.grownBy w' v.ownBlock → (v' = .slice none 0 0 ↔ v = .slice none 0 0 ∧ m = 0) → K (a.put o.dst v') w') :
    if Region.wanted o (yielded ops a.tmps) = true then Oper.wp P o a w K Q else E := by
  have hw : Region.wanted o (yielded ops a.tmps) = true := by simp [Region.wanted, hgd]
  rw [if_pos hw]
  exact wp_append_own w s x t ho base e i z size bytes ht hi hz hsize hby hzs hsz v n xs hs hown ad m c news hx hl hnews h1 h63 hbytes hbase h
def flatS (l : List (ByteArray × ByteArray)) : List Value := l.flatMap fun p => [.string p.1, .string p.2]
theorem flatS_snoc (l : List (ByteArray × ByteArray)) (a b : ByteArray) : flatS (l ++ [(a, b)]) = flatS l ++ [.string a, .string b] := by simp [flatS]
def SecAt (w : World) (base S : Nat) (l : List (ByteArray × ByteArray)) : Prop :=
  ∃ v, w.heap[S]? = some (.cells #[.map none, v] 47 (0, 0)) ∧ w.ownsRow base 49 2 v l.length (flatS l)
theorem ownBlock_tag {w : World} {base n size : Nat} {e e' : TypeId} {v : Value} {xs : List Value} {B : Nat} {cs : Array Value} {f : Nat × Nat} (ho : w.ownsRow base e size v n xs) (hB : w.heap[B]? = some (.cells cs e' f)) (hne : e ≠ e') : v.ownBlock ≠ some B := by
  rcases ho.2 with ⟨rfl, _⟩ | ⟨g, cap, cur, rfl, _, hg, _⟩
  · simp [Value.ownBlock]
  · simp only [Value.ownBlock, ne_eq, Option.some.injEq]
    rintro rfl
    rw [hg] at hB
    simp only [Option.some.injEq, Obj.cells.injEq] at hB
    exact hne hB.2.1
theorem not_nil {w : World} {base n size : Nat} {e : TypeId} {v : Value} {xs : List Value} (ho : w.ownsRow base e size v n xs) (h : ¬ v = .slice none 0 0) : ∃ g cap, v = .slice (some ⟨g, 0, none⟩) n cap := by
  rcases ho.2 with ⟨rfl, _⟩ | ⟨g, cap, cur, rfl, _⟩
  · exact absurd rfl h
  · exact ⟨g, cap, rfl⟩
theorem sec_mid {w w1 : World} {base S n : Nat} {v : Value} {xs : List Value} {o : Obj} (hB : w.heap[S]? = some (.cells #[.map none, v] 47 (0, 0))) (ho : w.ownsRow base 49 2 v n xs) (hg : (w.alloc o).grownBy w1 v.ownBlock) :
    w1.heap[S]? = some (.cells #[.map none, v] 47 (0, 0)) := by
  have hlt := lt_of_block hB
  rw [hg.block S (by simp; omega) (fun e => ownBlock_tag ho hB (by decide) e.symm), Below.heap_alloc _ _ _ hlt]
  exact hB
theorem sec_after {w w1 : World} {base S : Nat} {v v' : Value} {l : List (ByteArray × ByteArray)} {a b : ByteArray} {o : Obj} (hS : base ≤ S) (hbase : base ≤ w.heap.size)
    (hB : w.heap[S]? = some (.cells #[.map none, v] 47 (0, 0))) (ho : w.ownsRow base 49 2 v l.length (flatS l)) (hg : (w.alloc o).grownBy w1 v.ownBlock)
    (ho1 : w1.ownsRow base 49 2 v' (l.length + 1) (flatS l ++ [.string a, .string b])) :
    SecAt (w1.setCell ⟨S, 1, none⟩ v') base S (l ++ [(a, b)]) ∧ Below base w (w1.setCell ⟨S, 1, none⟩ v') := by
  have hB1 := sec_mid hB ho hg
  have hlt := lt_of_block hB1
  constructor
  · refine ⟨v', ?_, ?_⟩
    · have h' : w1.heap[S] = .cells #[.map none, v] 47 (0, 0) := by simpa [Array.getElem?_eq_getElem hlt] using hB1
      show (w1.heap.modify S _)[S]? = _
      rw [Array.getElem?_eq_getElem (by simpa using hlt), Array.getElem_modify_self, h']
      rfl
    · rw [flatS_snoc, List.length_append]
      exact ownsRow_setCell_other ho1 (ownBlock_tag ho1 hB1 (by decide)) _
  · exact (((Below.refl base w).alloc hbase o).grown hg (by simp; omega) (fun k e => (ho.lt k e).1)).setCell hS _
theorem grown_drew {w w1 : World} {row : Option Nat} (h : w.drew.grownBy w1 row) : w.grownBy w1 row := ⟨h.os, h.tape, h.output, h.size, h.block⟩
theorem two_new (w : World) (x y : Value) (e : TypeId) : ∀ j u, [x, y][j]? = some u → (w.alloc (.cells #[x, y] e)).cell? ((⟨w.heap.size, 0, none⟩ : Addr).add j) = some u := by
  intro j u hj
  match j, hj with
  | 0, hj => simp at hj; subst hj; simp [Addr.add]
  | 1, hj => simp at hj; subst hj; simp [Addr.add]
theorem two_one (a b : ByteArray) : ∀ u ∈ [Value.string a, Value.string b], u.oneCell' = true := by
  intro u hu; simp at hu; rcases hu with rfl | rfl <;> rfl
theorem zip_snoc (T N : List ByteArray) (k : Nat) (h3 : k < T.length) (h4 : k < N.length) : (T.zip N).take (k + 1) = (T.zip N).take k ++ [(T.getD k ByteArray.empty, N.getD k ByteArray.empty)] := by
  rw [List.take_succ_eq_append_getElem (by rw [List.length_zip]; omega)]
  simp [List.getD, List.getElem?_eq_getElem h3, List.getElem?_eq_getElem h4]
set_option maxHeartbeats 2000000 in
theorem secrets_any (v0 v1 : Value) (T N : List ByteArray) (w : World) (h0 : ReadsS w v0 T) (h1 : ReadsS w v1 N) (hl : T.length ≤ 65536) (hl1 : N.length ≤ 65536) (hTN : T.length ≤ N.length) :
    Calls Try.prog 13 #[v0, v1] w fun e w' => e = .returned (.pointer (some ⟨w.heap.size, 0, none⟩)) ∧ SecAt w' w.heap.size w.heap.size (T.zip N) ∧ Below w.heap.size w w' := by
  obtain ⟨i0, hi, hz0, hz1, hz2⟩ := info_parts Try.info49
  obtain ⟨p0, c0, rfl, _, q0⟩ := h0
  obtain ⟨p1, c1, rfl, _, q1⟩ := h1
  have Q0 := hide q0
  have Q1 := hide q1
  clear q0 q1
  go_enter Try.func13, Try.ntmps13
  go_wp2
  go_loopw [6] (fun i wr => ∃ k : Nat, k ≤ T.length ∧ i = .int .i64 k ∧ Hid (SecAt wr w.heap.size w.heap.size ((T.zip N).take k)) ∧ Hid (Below w.heap.size w wr)) (fun i _ => T.length - (intOf i).toNat)
  case atStart => exact ⟨0, by omega, rfl, ⟨_, heap_alloc_new w _, World.ownsRow_nil _ _ _ _⟩, (Below.refl _ _).alloc (Nat.le_refl _) _⟩
  case round =>
    obtain ⟨k, hk, rfl, HS, HB⟩ := hrel
    by_cases hlt : k < T.length
    · obtain ⟨g0, o0, rfl, r0⟩ := Q0.out k hlt
      obtain ⟨g1, o1, rfl, r1⟩ := Q1.out k (by omega)
      have d0 : wr.cell? ⟨g0, o0 + k, none⟩ = some (.string (T.getD k ByteArray.empty)) := by rw [HB.out.cell (p := ⟨g0, o0 + k, none⟩) (World.block_lt_of_cell? w ⟨g0, o0 + k, none⟩ r0)]; exact r0
      have d1 : wr.cell? ⟨g1, o1 + k, none⟩ = some (.string (N.getD k ByteArray.empty)) := by rw [HB.out.cell (p := ⟨g1, o1 + k, none⟩) (World.block_lt_of_cell? w ⟨g1, o1 + k, none⟩ r1)]; exact r1
      have ZS := hide (zip_snoc T N k hlt (by omega))
      have hkl : ((T.zip N).take k).length = k := by rw [List.length_take, List.length_zip]; omega
      have LK := hide hkl
      clear r0 r1 hkl
      generalize T.getD k ByteArray.empty = x at d0 ZS
      generalize N.getD k ByteArray.empty = y at d1 ZS
      generalize (T.zip N).take k = L at HS ZS LK
      obtain ⟨v, hS, hO⟩ := HS.out
      have HS1 := hide hS
      have HO := hide hO
      have s1 : wr.cell? ⟨w.heap.size, 1, none⟩ = some v := by simp [World.cell?, hS]
      have hsz := HB.out.size
      have s2 : ∀ o, (wr.alloc o).cell? ⟨w.heap.size, 1, none⟩ = some v := fun o => by rw [World.cell?_alloc_past _ _ _ (lt_of_block hS)]; exact s1
      clear hS hO HS
      have hi1 : (k : Int) < (T.length : Int) := by omega
      have hi2 : (k : Int) < (N.length : Int) := by omega
      have hkN : k < N.length := by omega
      go_wp2
      go_region_law (refine step_append_own rfl (.tmp 25) (.tmp 35) 45 rfl w.heap.size 49 i0 (.agg #[.string ⟨#[]⟩, .string ⟨#[]⟩]) 2 32 Try.underlying45 hi hz0 hz1 hz2 rfl (by decide) v L.length (flatS L) (by simp [Act.eval]) (HO.out.alloc _) ⟨wr.heap.size, 0, none⟩ 1 1 [.string x, .string y] (by simp [Act.eval]) rfl (two_new _ _ _ _) (two_one _ _) (by rw [LK.out]; unfold maxLen; omega) (by rw [LK.out]; omega) (by simp; omega) ?_; intro v' w1 ho1 hg hn; obtain ⟨g', cap', rfl⟩ := not_nil ho1 (by simpa using hn); have R := hide (sec_after (Nat.le_refl _) hsz HS1.out HO.out (grown_drew hg) ho1); have hm := sec_mid HS1.out HO.out (grown_drew hg); have m1 : w1.cell? ⟨w.heap.size, 1, none⟩ = some v := (by simp [World.cell?, hm]); have m2 : w1.frozen? ⟨w.heap.size, 1, none⟩ = false := (by simp [World.frozen?, hm]); clear ho1 hg hn hm)
      all_goals
        go_wp2
        go_roundw
        case rel => exact ⟨k + 1, by omega, by go_num, by rw [ZS.out]; exact R.out.1, HB.out.trans R.out.2⟩
        case measure => simp [intOf]; omega
    · have et : (T.zip N).take k = T.zip N := List.take_of_length_le (by rw [List.length_zip]; omega)
      rw [et] at HS
      go_wp2
      go_ret
      exact ⟨rfl, HS.out, HB.out⟩
end Go.Proofs.Qxb6616271a
