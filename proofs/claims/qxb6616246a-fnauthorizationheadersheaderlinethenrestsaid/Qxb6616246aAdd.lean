/-
  The scan in memory; '(*scan).add'.
-/
import Derived.Test.Qxb6616246aHeader
import Derived.Laws.OwnMore
namespace Go.Proofs.Qxb6616246a
set_option linter.unusedVariables false
open Go.RowKit
theorem Try.info46 : (Try.prog.info? 46).map (fun i => (i.zero, i.size, i.bytes)) = some (some (.agg #[.int .i64 0, .int .i64 0]), 2, 16) := by kernel_rfl
def flat (sp : List (Int × Int)) : List Value := sp.flatMap fun p => [.int .i64 p.1, .int .i64 p.2]
theorem flat_length (sp : List (Int × Int)) : (flat sp).length = sp.length * 2 := by
  unfold flat
  induction sp with
  | nil => rfl
  | cons a l ih => simp only [List.flatMap_cons, List.length_append, ih, List.length_cons, List.length_nil]; omega
theorem flat_snoc (sp : List (Int × Int)) (a b : Int) : flat (sp ++ [(a, b)]) = flat sp ++ [.int .i64 a, .int .i64 b] := by
  simp [flat]
/-- THE SCAN: its struct in block B, its spans in a row of the call's own. -/
def ScanAt (w : World) (base B : Nat) (t lo : ByteArray) (sp : List (Int × Int)) : Prop :=
  ∃ v, w.heap[B]? = some (.cells #[.string t, .string lo, .map none, v] 43 (0, 0)) ∧ w.ownsRow base 46 2 v sp.length (flat sp)
/-- WHAT A STEP OF THE SCAN LEAVES ALONE. -/
structure Still (base B : Nat) (w w' : World) : Prop where
  os : w'.os = w.os
  tape : w'.tape = w.tape
  output : w'.output = w.output
  size : w.heap.size ≤ w'.heap.size
  block : ∀ k, k < w.heap.size → k ≠ B → (k < base ∨ ∀ cs f, w.heap[k]? ≠ some (.cells cs 46 f)) → w'.heap[k]? = w.heap[k]?
theorem Still.refl (base B : Nat) (w : World) : Still base B w w := ⟨rfl, rfl, rfl, Nat.le_refl _, fun _ _ _ _ => rfl⟩
theorem Still.drewN {base B : Nat} {a w : World} (h : Still base B a w) (n : Nat) : Still base B a (w.drewN n) := ⟨h.os, h.tape, h.output, h.size, h.block⟩
theorem Still.trans {base B : Nat} {a b c : World} (h : Still base B a b) (k : Still base B b c) : Still base B a c :=
  ⟨k.os.trans h.os, k.tape.trans h.tape, k.output.trans h.output, Nat.le_trans h.size k.size, fun i hi hB ht => by
    have e := h.block i hi hB ht
    rw [← e]
    exact k.block i (Nat.lt_of_lt_of_le hi h.size) hB (by rw [e]; exact ht)⟩
theorem Still.below {base B n : Nat} {w w' : World} (h : Still base B w w') (hb : n ≤ base) (hB : n ≤ B) (hn : n ≤ w.heap.size) : Below n w w' :=
  ⟨h.os, h.tape, h.output, h.size, fun k hk => h.block k (by omega) (by omega) (.inl (by omega))⟩
theorem ScanAt.drewN {w : World} {base B : Nat} {t lo : ByteArray} {sp : List (Int × Int)} (h : ScanAt w base B t lo sp) (n : Nat) : ScanAt (w.drewN n) base B t lo sp := h
theorem ownBlock_tag {w : World} {base n size : Nat} {e e' : TypeId} {v : Value} {xs : List Value} {B : Nat} {cs : Array Value} {f : Nat × Nat} (ho : w.ownsRow base e size v n xs) (hB : w.heap[B]? = some (.cells cs e' f)) (hne : e ≠ e') : v.ownBlock ≠ some B := by
  rcases ho.2 with ⟨rfl, _⟩ | ⟨g, cap, cur, rfl, _, hg, _⟩
  · simp [Value.ownBlock]
  · simp only [Value.ownBlock, ne_eq, Option.some.injEq]
    rintro rfl
    rw [hg] at hB
    simp only [Option.some.injEq, Obj.cells.injEq] at hB
    exact hne hB.2.1
theorem not_nil {w : World} {base n size : Nat} {e : TypeId} {v : Value} {xs : List Value} (ho : w.ownsRow base e size v n xs) (h : ¬ v = .slice none 0 0) : ∃ g cap, v = .slice (some ⟨g, 0, none⟩) n cap := by
  rcases ho.2 with ⟨rfl, _⟩ | ⟨g, cap, cur, rfl, _⟩
  · exact absurd rfl h
  · exact ⟨g, cap, rfl⟩
theorem own_base {w : World} {base n size : Nat} {e : TypeId} {v : Value} {xs : List Value} (ho : w.ownsRow base e size v n xs) : ∀ k, v.ownBlock = some k → base ≤ k ∧ ∃ cs, w.heap[k]? = some (.cells cs e (0, 0)) := by
  rcases ho.2 with ⟨rfl, _⟩ | ⟨g, cap, cur, rfl, hb, hg, _⟩
  · intro k h; simp [Value.ownBlock] at h
  · intro k h
    simp only [Value.ownBlock, Option.some.injEq] at h
    subst h
    exact ⟨hb, cur, hg⟩
theorem add_mid {w w1 : World} {base B n : Nat} {t lo : ByteArray} {v : Value} {xs : List Value} {o : Obj}
    (hB : w.heap[B]? = some (.cells #[.string t, .string lo, .map none, v] 43 (0, 0))) (ho : w.ownsRow base 46 2 v n xs) (hg : (w.alloc o).grownBy w1 v.ownBlock) :
    w1.heap[B]? = some (.cells #[.string t, .string lo, .map none, v] 43 (0, 0)) := by
  have hlt := lt_of_block hB
  rw [hg.block B (by simp; omega) (fun e => ownBlock_tag ho hB (by decide) e.symm), Below.heap_alloc _ _ _ hlt]
  exact hB
theorem add_after {w w1 : World} {base B : Nat} {t lo : ByteArray} {v v' : Value} {sp : List (Int × Int)} {a b : Int} {o : Obj}
    (hB : w.heap[B]? = some (.cells #[.string t, .string lo, .map none, v] 43 (0, 0))) (ho : w.ownsRow base 46 2 v sp.length (flat sp)) (hg : (w.alloc o).grownBy w1 v.ownBlock)
    (ho1 : w1.ownsRow base 46 2 v' (sp.length + 1) (flat sp ++ [.int .i64 a, .int .i64 b])) :
    ScanAt (w1.setCell ⟨B, 3, none⟩ v') base B t lo (sp ++ [(a, b)]) ∧ Still base B w (w1.setCell ⟨B, 3, none⟩ v') := by
  have hB1 := add_mid hB ho hg
  have hlt := lt_of_block hB1
  constructor
  · refine ⟨v', ?_, ?_⟩
    · have h' : w1.heap[B] = .cells #[.string t, .string lo, .map none, v] 43 (0, 0) := by simpa [Array.getElem?_eq_getElem hlt] using hB1
      show (w1.heap.modify B _)[B]? = _
      rw [Array.getElem?_eq_getElem (by simpa using hlt), Array.getElem_modify_self, h']
      rfl
    · rw [flat_snoc, List.length_append]
      exact ownsRow_setCell_other ho1 (ownBlock_tag ho1 hB1 (by decide)) _
  · refine ⟨hg.os, hg.tape, hg.output, ?_, ?_⟩
    · have := hg.size
      simp at this ⊢
      omega
    · intro k hk hkB ht
      rw [Below.heap_setCell _ _ _ _ hkB, hg.block k (by simp; omega) ?_, Below.heap_alloc _ _ _ hk]
      intro e
      obtain ⟨h1, cs, h2⟩ := own_base ho k e.symm
      rcases ht with ht | ht
      · omega
      · exact ht _ _ h2
theorem two_new (w : World) (x y : Value) (e : TypeId) : ∀ j u, [x, y][j]? = some u → (w.alloc (.cells #[x, y] e)).cell? ((⟨w.heap.size, 0, none⟩ : Addr).add j) = some u := by
  intro j u hj
  match j, hj with
  | 0, hj => simp at hj; subst hj; simp [Addr.add]
  | 1, hj => simp at hj; subst hj; simp [Addr.add]
set_option maxHeartbeats 1000000 in
theorem add_any (base B : Nat) (t lo : ByteArray) (sp : List (Int × Int)) (a b : Int) (w : World) (h : ScanAt w base B t lo sp) (hl : sp.length ≤ 1000000000) (hb : base ≤ w.heap.size) :
    Calls Try.prog 23 #[.pointer (some ⟨B, 0, none⟩), .int .i64 a, .int .i64 b] w fun e w' => e = .returned (.tuple #[]) ∧ ScanAt w' base B t lo (sp ++ [(a, b)]) ∧ Still base B w w' := by
  obtain ⟨i0, hi, hz0, hz1, hz2⟩ := info_parts Try.info46
  obtain ⟨v, hB, ho⟩ := h
  have HB := hide hB
  have HO := hide ho
  have c3 : w.cell? ⟨B, 3, none⟩ = some v := by simp [World.cell?, hB]
  clear hB ho
  go_enter Try.func23, Try.ntmps23
  go_wp2_with (at_builtin; refine wpList_append_own _ rfl (.tmp 10) (.tmp 14) 41 rfl base 46 i0 (.agg #[.int .i64 0, .int .i64 0]) 2 16 Try.underlying41 hi hz0 hz1 hz2 rfl (by decide) v sp.length (flat sp) ?c1 (HO.out.alloc _) ⟨w.heap.size, 0, none⟩ 1 1 [.int .i64 a, .int .i64 b] ?c2 rfl ?c3 ?c4 ?c5 ?c6 ?c7 ?_)
  case c1 => rfl
  case c2 => rfl
  case c3 => exact two_new _ _ _ _
  case c4 => intro u hu; simp at hu; rcases hu with rfl | rfl <;> rfl
  case c5 => unfold maxLen; omega
  case c6 => omega
  case c7 => simp; omega
  intro v' w1 ho1 hg hn
  have R := hide (add_after HB.out HO.out hg ho1)
  have hB1 := add_mid HB.out HO.out hg
  obtain ⟨g, cap, hv⟩ := not_nil ho1 hn
  have c3' : w1.cell? ⟨B, 3, none⟩ = some v := by simp [World.cell?, hB1]
  have f3' : w1.frozen? ⟨B, 3, none⟩ = false := by simp [World.frozen?, hB1]
  clear ho1 hg hn hB1 c3 HB HO
  rw [hv] at R ⊢
  clear hv
  go_wp2
  go_end0
  exact ⟨rfl, R.out⟩
end Go.Proofs.Qxb6616246a
