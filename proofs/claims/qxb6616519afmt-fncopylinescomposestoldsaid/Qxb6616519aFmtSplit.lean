/-
  'splitLines', the bounds on the lengths, 'ascendingWithin'.
-/
import Derived.Test.Qxb6616519aFmtLoop
import Derived.Laws.IdiomStrings
namespace Go.Proofs.Qxb6616519aFmt
set_option linter.unusedVariables false
open Go.RowKit
def strV (ls : List (List UInt8)) : List Value := ls.map fun Y => Value.string ⟨Y.toArray⟩
theorem extract_eq (T : ByteArray) (a b : Nat) : T.extract a b = ⟨((T.data.toList.drop a).take (b - a)).toArray⟩ := by
  have : (T.extract a b).data = ((T.data.toList.drop a).take (b - a)).toArray := by
    rw [ByteArray.data_extract]
    apply Array.toList_inj.1
    rw [Array.toList_extract, List.extract_eq_take_drop]
  cases h : T.extract a b
  rw [h] at this
  simp at this
  rw [this]
theorem linesF_len : ∀ (f : Nat) (l : List UInt8), l.length < f → (linesF f l).length ≤ l.length
  | 0, _, h => by omega
  | f + 1, l, h => by
    rw [linesF]
    by_cases e : l = []
    · rw [if_pos e, e]; simp
    · rw [if_neg e]
      have h1 := lk_pos e
      have h2 := lk_le l
      have h3 := linesF_len f (l.drop (lk l)) (by rw [List.length_drop]; omega)
      rw [List.length_drop] at h3
      rw [List.length_cons]
      generalize lk l = z at *
      omega
theorem lines_len (l : List UInt8) : (lines l).length ≤ l.length := linesF_len _ _ (by omega)
theorem Tryf.info9 : (Tryf.prog.info? 9).map (fun i => (i.zero, i.size, i.bytes)) = some (some (.string ⟨#[]⟩), 1, 16) := by kernel_rfl
theorem split_line {TL : List UInt8} {xs : List (List UInt8)} {st i : Nat} (hx : xs ++ lines (TL.drop st) = lines TL) (hn : NoNl (TL.drop st) (i - st)) (hsi : st ≤ i) (hi : TL[i]? = some 10) :
    (xs ++ [(TL.drop st).take (i + 1 - st)]) ++ lines (TL.drop (i + 1)) = lines TL := by
  have hil : i < TL.length := (List.getElem?_eq_some_iff.1 hi).1
  have h1 : nl (TL.drop st) = i - st := nl_found (by rw [List.getElem?_drop, show st + (i - st) = i by omega]; exact hi) hn
  have hne : TL.drop st ≠ [] := fun e => by have := congrArg List.length e; rw [List.length_drop] at this; simp at this; omega
  have hk : lk (TL.drop st) = i + 1 - st := by
    unfold lk
    rw [h1, if_pos (by rw [List.length_drop]; omega)]
    omega
  rw [← hx, lines_cons hne, hk, List.drop_drop, show st + (i + 1 - st) = i + 1 by omega, List.append_assoc]
  rfl
theorem split_last {TL : List UInt8} {xs : List (List UInt8)} {st : Nat} (hx : xs ++ lines (TL.drop st) = lines TL) (hn : NoNl (TL.drop st) (TL.length - st)) (h : st < TL.length) :
    xs ++ [(TL.drop st).take (TL.length - st)] = lines TL := by
  have hl : (TL.drop st).length = TL.length - st := by rw [List.length_drop]
  have hne : TL.drop st ≠ [] := fun e => by have := congrArg List.length e; rw [hl] at this; simp at this; omega
  have h1 : nl (TL.drop st) = (TL.drop st).length := nl_none (by rw [hl]; exact hn)
  have hk : lk (TL.drop st) = TL.length - st := by
    unfold lk
    rw [if_neg (by omega), hl]
  rw [← hx, lines_cons hne, hk, List.drop_drop, show st + (TL.length - st) = TL.length by omega, List.drop_length, lines_nil]
set_option maxHeartbeats 8000000 in
set_option maxRecDepth 100000 in
theorem split_any (T : ByteArray) (w : World) (hT : T.size ≤ 1048576) :
    Calls Tryf.prog 6 #[.string T] w fun e w' => ∃ v, e = .returned v ∧ w'.ownsRow w.heap.size 9 1 v (lines T.data.toList).length (strV (lines T.data.toList)) ∧ Below w.heap.size w w' := by
  obtain ⟨i0, hi, hz0, hz1, hz2⟩ := info_parts Tryf.info9
  have hTl : T.data.toList.length = T.size := by rw [Array.length_toList]; rfl
  have HTl := hide hTl
  have HLN := hide (show (lines T.data.toList).length ≤ 1048576 by have := lines_len T.data.toList; rw [hTl] at this; omega)
  clear hTl
  go_enter Tryf.func6, Tryf.ntmps6
  go_wp2_with fail
  go_loopw [3, 4, 5] (fun s3 s4 s5 wr => ∃ (st i : Nat) (xs : List (List UInt8)), s4 = .int .i64 st ∧ s5 = .int .i64 i ∧ Hid (wr.ownsRow w.heap.size 9 1 s3 xs.length (strV xs)) ∧ Hid (xs ++ lines (T.data.toList.drop st) = lines T.data.toList) ∧ Hid (NoNl (T.data.toList.drop st) (i - st)) ∧ st ≤ i ∧ i ≤ T.size ∧ xs.length ≤ st ∧ Hid (Below w.heap.size w wr)) (fun _ _ s5 _ => T.size - (intOf s5).toNat)
  case atStart => exact ⟨0, 0, [], rfl, rfl, World.ownsRow_nil _ _ _ _, hide (by simp), fun j hj => by omega, by omega, by omega, by simp, Below.refl _ _⟩
  case round =>
    obtain ⟨st, i, xs, rfl, rfl, HO, HX, HN, hsi, hiT, hxs, HB⟩ := hrel
    have hxl : (lines T.data.toList).length ≤ 1048576 := HLN.out
    by_cases hlt : i < T.size
    · have hlt' : (i : Int) < (T.size : Int) := by omega
      have hget : T.data.toList[i]? = some (T[i]'hlt) := by
        rw [Array.getElem?_toList, Array.getElem?_eq_getElem (by exact hlt)]
        rfl
      by_cases hc : (T[i]'hlt) = 10
      · have hcb : (((T[i]'hlt).toNat : Int) == 10) = true := by rw [hc]; rfl
        have hsle : (st : Int) ≤ (i : Int) + 1 := by omega
        have HSL := hide (split_line HX.out HN.out hsi (by rw [hget, hc]))
        have HEX := hide (extract_eq T st (i + 1))
        rw [hc] at hget
        clear hget hc HX HN
        go_wp2_with (at_builtin; refine wpList_append_own2 _ rfl (.tmp 16) (.tmp 22) 24 rfl w.heap.size 9 i0 (.string ⟨#[]⟩) 1 16 Tryf.underlying24 hi hz0 hz1 hz2 rfl (by decide) u3 xs.length (strV xs) ?a1 (HO.out.alloc _) ⟨wr.heap.size, 0, none⟩ 1 1 [.string (T.extract st (i + 1))] ?a2 rfl ?a3 ?a4 ?a5 ?a6 ?a7 ?_)
        case a1 => rfl
        case a2 => rfl
        case a3 =>
          intro j u hj
          match j, hj with
          | 0, hj =>
            rw [addr_add, cell_at (block_new wr _)]
            simpa using hj
        case a4 => intro u hu; simp at hu; subst hu; rfl
        case a5 => unfold maxLen; omega
        case a6 => omega
        case a7 => have := HB.out.size; simp; omega
        intro v1 w1 ho1 hg1 _ hf1
        replace ho1 := hide ho1
        replace hg1 := hide hg1
        clear hf1
        go_wp2
        go_roundw
        case rel =>
          refine ⟨i + 1, i + 1, xs ++ [(T.data.toList.drop st).take (i + 1 - st)], by go_num, by go_num, ?_, HSL, fun j hj => by omega, by omega, by omega, by rw [List.length_append, List.length_singleton]; omega, ?_⟩
          · refine hide ?_
            have h1 := ho1.out
            rw [HEX.out] at h1
            rw [List.length_append, strV, List.map_append]
            exact h1
          · exact hide ((HB.out.alloc HB.out.size _).grown hg1.out (by have := HB.out.size; simp; omega) (fun k e => (HO.out.lt k e).1))
        case measure => simp [intOf]; omega
      · have hcb : (((T[i]'hlt).toNat : Int) == 10) = false := by
          have : (T[i]'hlt).toNat ≠ 10 := fun e => hc (UInt8.toNat_inj.1 e)
          simp; omega
        have HN2 : Hid (NoNl (T.data.toList.drop st) (i + 1 - st)) := by
          intro j hj
          by_cases e : j < i - st
          · exact HN.out j e
          · rw [List.getElem?_drop, show st + j = i by omega, hget]
            simpa using hc
        clear hget hc
        go_wp2
        go_roundw
        case rel => exact ⟨st, i + 1, xs, rfl, by go_num, HO, HX, HN2, by omega, by omega, hxs, HB⟩
        case measure => simp [intOf]; omega
    · obtain rfl : i = T.size := by omega
      by_cases hst : st < T.size
      · have hst' : decide ((st : Int) < (T.size : Int)) = true := by simp; omega
        have hstl : (st : Int) ≤ (T.size : Int) := by omega
        have HSL := hide (split_last HX.out (by rw [HTl.out]; exact HN.out) (by rw [HTl.out]; exact hst))
        have HEX := hide (extract_eq T st T.size)
        go_wp2_with (at_builtin; refine wpList_append_own2 _ rfl (.tmp 30) (.tmp 34) 24 rfl w.heap.size 9 i0 (.string ⟨#[]⟩) 1 16 Tryf.underlying24 hi hz0 hz1 hz2 rfl (by decide) u3 xs.length (strV xs) ?a1 (HO.out.alloc _) ⟨wr.heap.size, 0, none⟩ 1 1 [.string (T.extract st T.size)] ?a2 rfl ?a3 ?a4 ?a5 ?a6 ?a7 ?_)
        case a1 => rfl
        case a2 => rfl
        case a3 =>
          intro j u hj
          match j, hj with
          | 0, hj =>
            rw [addr_add, cell_at (block_new wr _)]
            simpa using hj
        case a4 => intro u hu; simp at hu; subst hu; rfl
        case a5 => unfold maxLen; omega
        case a6 => omega
        case a7 => have := HB.out.size; simp; omega
        intro v1 w1 ho1 hg1 _ hf1
        replace ho1 := hide ho1
        replace hg1 := hide hg1
        clear hf1
        go_wp2
        go_ret
        refine ⟨v1, rfl, ?_, (HB.out.alloc HB.out.size _).grown hg1.out (by have := HB.out.size; simp; omega) (fun k e => (HO.out.lt k e).1)⟩
        have h1 := ho1.out
        rw [HEX.out] at h1
        have h2 := HSL.out
        rw [HTl.out] at h2
        rw [← h2, List.length_append, strV, List.map_append]
        exact h1
      · have hst' : decide ((st : Int) < (T.size : Int)) = false := by simp; omega
        obtain rfl : st = T.size := by omega
        have HSL : Hid (xs = lines T.data.toList) := by
          have := HX.out
          rw [← HTl.out, List.drop_length, lines_nil, List.append_nil] at this
          exact this
        go_wp2
        go_ret
        exact ⟨_, rfl, by rw [← HSL.out]; exact HO.out, HB.out⟩
end Go.Proofs.Qxb6616519aFmt
