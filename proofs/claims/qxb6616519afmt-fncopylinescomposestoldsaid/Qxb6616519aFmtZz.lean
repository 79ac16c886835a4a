/-
  'ZZCopyLines'.
-/
import Derived.Test.Qxb6616519aFmtCopy
namespace Go.Proofs.Qxb6616519aFmt
set_option linter.unusedVariables false
open Go.RowKit Go.Extern.Stop Go.Stop Go.Extern
theorem runL_len : ∀ (ls : List (List UInt8)) (n : Nat) (s : List Int × List UInt8), (runL n ls s).2.length ≤ s.2.length + (ls.map List.length).sum
  | [], n, s => by simp [runL]
  | Y :: ls, n, s => by
    rw [runL]
    have h1 := runL_len ls (n + 1) (stepC n Y s)
    have h2 := (stepC_len n Y s).2
    generalize (runL (n + 1) ls (stepC n Y s)).2.length = z at *
    generalize (stepC n Y s).2.length = y at *
    simp only [List.map_cons, List.sum_cons]
    omega
theorem linesF_sum : ∀ (f : Nat) (l : List UInt8), l.length < f → ((linesF f l).map List.length).sum = l.length
  | 0, _, h => by omega
  | f + 1, l, h => by
    rw [linesF]
    by_cases e : l = []
    · rw [if_pos e, e]; rfl
    · rw [if_neg e]
      have h1 := lk_pos e
      have h2 := lk_le l
      have h3 := linesF_sum f (l.drop (lk l)) (by rw [List.length_drop]; omega)
      simp only [List.map_cons, List.sum_cons, List.length_take]
      rw [h3, List.length_drop]
      generalize lk l = z at *
      omega
theorem lines_sum (l : List UInt8) : ((lines l).map List.length).sum = l.length := linesF_sum _ _ (by omega)
set_option maxHeartbeats 8000000 in
set_option maxRecDepth 100000 in
theorem zz_any (F : Interp) (v : Value) (T : ByteArray) (ev0 : List Int) (aE aF : Addr) (fin : List Int × List UInt8) (w : World) (hF : F.answers w.tape) (hv : EvAt w.heap.size v ev0 w) (hT : T.size ≤ 1048576) (hev : ev0.length ≤ 1048576) (hE : Errs w.heap.size aE aF w)
    (hfin : runL 0 (lines T.data.toList) (ev0, []) = fin) :
    Calls Tryf.prog 7 #[.string T, v] w fun e w' => e = .returned (.tuple #[.string ⟨fin.2.toArray⟩, .bool (!fin.1.isEmpty)]) ∧ Below w.heap.size w w' := by
  obtain ⟨av, cv, rfl, -, -, -⟩ := id hv
  obtain ⟨w2, HW2⟩ : ∃ w2, Hid (w2 = ((w.alloc (.cells #[.slice none 0 0, .int .i64 0, .int .i8 0] 34)).alloc (.cells #[.string T, .int .i64 0, .int .i64 (-1)] 52))) := ⟨_, rfl⟩
  have hB2 : Below w.heap.size w w2 := by rw [HW2.out]; exact ((Below.refl _ w).alloc (Nat.le_refl _) _).alloc (by simp) _
  have hfl : fin.2.length ≤ 1048576 := by
    have h1 := runL_len (lines T.data.toList) 0 (ev0, [])
    rw [hfin, lines_sum] at h1
    have e : T.data.toList.length = T.size := by rw [Array.length_toList]; rfl
    rw [e] at h1
    simp only [List.length_nil] at h1
    generalize fin.2.length = z at *
    omega
  have CA := hide (copy_any F w.heap.size w.heap.size (w.heap.size + 1) (.slice av ev0.length cv) T ev0 aE aF fin w2 (by rw [hB2.tape]; exact hF) ⟨0, .inl ⟨rfl, rfl, by rw [HW2.out, Below.heap_alloc _ _ _ (by simp)]; exact block_new w _⟩⟩
    ⟨-1, by rw [HW2.out]; exact (by simpa using block_new (w.alloc (.cells #[.slice none 0 0, .int .i64 0, .int .i8 0] 34)) (.cells #[.string T, .int .i64 0, .int .i64 (-1)] 52 (0, 0)))⟩ (Nat.le_refl _) (by omega) (hv.below hB2) hT hev (hE.below hB2) hfin)
  have NS := hide (fun W => newReader_str T W)
  have CA2 := CA.out
  rw [HW2.out] at CA2 hB2
  replace CA2 := hide CA2
  have HB2 := hide hB2
  clear hv hE hfin hF hB2 CA HW2
  go_enter Tryf.func7, Tryf.ntmps7
  go_upto_region 3 with (first | (go_at_call 11; refine (NS.out _).mono ?_; rintro e w' ⟨rfl, rfl⟩) | (go_at_call 10; refine CA2.out.mono ?_; rintro e w4 ⟨ve, g4, rfl, hn4, hs4, hbuf4, hB4⟩; replace hn4 := hide hn4; replace hs4 := hide hs4; replace hbuf4 := hide hbuf4; replace hB4 := hide hB4))
  have SA := hide (fun k => string_any w.heap.size g4 fin.2 (w4.drewN k) hbuf4.out (by omega))
  have SA2 : Hid (∀ k, Calls Tryf.prog 12 #[.pointer (some ⟨w.heap.size, 0, none⟩)] (w4.drewN k) fun e w'' => e = .returned (.string ⟨fin.2.toArray⟩) ∧ ∃ n, w'' = w4.drewN n) := fun k => (SA.out k).mono (fun e w' h => ⟨h.1, by obtain ⟨m, hm⟩ := h.2; exact ⟨k + m, by rw [hm, World.drewN_drewN]⟩⟩)
  by_cases hf : fin.1 = []
  · obtain rfl := hn4.out hf
    have he : (!fin.1.isEmpty) = false := by rw [hf]; rfl
    replace he := hide he
    go_quiet (first | (go_at_call 12; exact SA2.out _))
    go_wp2
    go_ret2
    exact ⟨by first | rfl | (rw [he.out]; rfl), HB2.out.trans (hB4.out.trans ⟨rfl, rfl, rfl, Nat.le_refl _, fun _ _ => rfl⟩)⟩
  · obtain ⟨a, rfl⟩ := hs4.out hf
    have he : (!fin.1.isEmpty) = true := by cases h : fin.1 with | nil => exact absurd h hf | cons _ _ => rfl
    replace he := hide he
    have eqn := Tryf.neqNil
    go_quiet (first | (go_at_call 12; exact SA2.out _))
    go_wp2
    go_ret2
    exact ⟨by first | rfl | (rw [he.out]; rfl), HB2.out.trans (hB4.out.trans ⟨rfl, rfl, rfl, Nat.le_refl _, fun _ _ => rfl⟩)⟩
end Go.Proofs.Qxb6616519aFmt
