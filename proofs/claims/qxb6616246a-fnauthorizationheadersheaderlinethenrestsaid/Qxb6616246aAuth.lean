/-
  ZZnewScan, ZZscanAdd, authorizationHeaders, authSpans.
-/
import Derived.Test.Qxb6616246aOcc
namespace Go.Proofs.Qxb6616246a
set_option linter.unusedVariables false
open Go.RowKit
set_option maxHeartbeats 1000000 in
theorem newScan_any (t lo : ByteArray) (w : World) :
    Calls Try.prog 10 #[.string t, .string lo] w fun e w' => e = .returned (.pointer (some ⟨w.heap.size, 0, none⟩)) ∧ w' = w.alloc (.cells #[.string t, .string lo, .map none, .slice none 0 0] 43) := by
  go_enter Try.func10, Try.ntmps10
  go_wp2
  go_ret
  exact ⟨rfl, rfl⟩
theorem scan_new (t lo : ByteArray) (w : World) (base : Nat) : ScanAt (w.alloc (.cells #[.string t, .string lo, .map none, .slice none 0 0] 43)) base w.heap.size t lo [] :=
  ⟨_, heap_alloc_new w _, World.ownsRow_nil _ _ _ _⟩
theorem ownsRow_weak {w : World} {base base' n size : Nat} {e : TypeId} {v : Value} {xs : List Value} (h : w.ownsRow base' e size v n xs) (hb : base ≤ base') : w.ownsRow base e size v n xs := by
  refine ⟨h.1, ?_⟩
  rcases h.2 with h2 | ⟨g, cap, cur, hv, hg, r⟩
  · exact .inl h2
  · exact .inr ⟨g, cap, cur, hv, Nat.le_trans hb hg, r⟩
theorem ScanAt.alloc {w : World} {base B : Nat} {t lo : ByteArray} {sp : List (Int × Int)} (h : ScanAt w base B t lo sp) (o : Obj) : ScanAt (w.alloc o) base B t lo sp := by
  obtain ⟨v, hB, ho⟩ := h
  exact ⟨v, by rw [Below.heap_alloc _ _ _ (lt_of_block hB)]; exact hB, ho.alloc o⟩
theorem Still.alloc {base B : Nat} {a w : World} (h : Still base B a w) (o : Obj) : Still base B a (w.alloc o) :=
  ⟨h.os, h.tape, h.output, Nat.le_trans h.size (by simp), fun k hk hB ht => by rw [Below.heap_alloc _ _ _ (Nat.lt_of_lt_of_le hk h.size)]; exact h.block k hk hB ht⟩
set_option maxHeartbeats 1000000 in
theorem scanAdd_any (base B : Nat) (t lo : ByteArray) (sp : List (Int × Int)) (a b : Int) (w : World) (h : ScanAt w base B t lo sp) (hl : sp.length ≤ 1000000000) (hb : base ≤ w.heap.size) :
    Calls Try.prog 11 #[.pointer (some ⟨B, 0, none⟩), .int .i64 a, .int .i64 b] w fun e w' => e = .returned (.tuple #[]) ∧ ScanAt w' base B t lo (sp ++ [(a, b)]) ∧ Still base B w w' := by
  have AD := hide (add_any base B t lo sp a b w h hl hb)
  clear h
  go_enter Try.func11, Try.ntmps11
  go_wp2_with (go_at_call 23; refine AD.out.mono ?_; rintro e w' ⟨rfl, hA, hS⟩)
  go_end0
  exact ⟨rfl, hA, hS⟩
set_option maxHeartbeats 2000000 in
theorem auth_any (base B : Nat) (t lo : ByteArray) (sp : List (Int × Int)) (m : Int) (w : World) (hs : t.size ≤ 900000000) (hlo : lo.size = t.size) (hsl : sp.length ≤ 10000)
    (h0 : 0 < base) (hB0 : 0 < B) (hm : w.cell? ⟨0, 0, none⟩ = some (.int .i64 m)) (h : ScanAt w base B t lo sp) (hb : base ≤ w.heap.size) :
    Calls Try.prog 24 #[.pointer (some ⟨B, 0, none⟩)] w fun e w' => e = .returned (.tuple #[]) ∧ ScanAt w' base B t lo (sp ++ scan t.data.toList lo.data.toList 0) ∧ Still base B w w' := by
  have hlt : B < w.heap.size := by obtain ⟨v, hB, _⟩ := h; exact lt_of_block hB
  have c0 : w.cell? ⟨B, 0, none⟩ = some (.string t) := by obtain ⟨v, hB, _⟩ := h; simp [World.cell?, hB]
  have c1 : w.cell? ⟨B, 1, none⟩ = some (.string lo) := by obtain ⟨v, hB, _⟩ := h; simp [World.cell?, hB]
  have HH := hide h
  have HM := hide hm
  have HLO := hide hlo
  clear h hm hlo
  have OC := hide (occ_any base B (w.heap.size + 1) w.heap.size t lo sp m ((w.alloc (.cells #[.pointer (some ⟨B, 0, none⟩)] 28)).alloc (.cells #[.string t] 9)) hs HLO.out hsl h0 hB0
    (by rw [World.cell?_alloc_past _ _ _ (by simp), World.cell?_alloc_past _ _ _ (by show 0 < w.heap.size; omega)]; exact HM.out)
    (by have := heap_alloc_new (w.alloc (.cells #[.pointer (some ⟨B, 0, none⟩)] 28)) (.cells #[.string t] 9); simpa using this)
    (by rw [Below.heap_alloc _ _ _ (by simp)]; exact heap_alloc_new w _) (by omega) (by omega) ((HH.out.alloc _).alloc _) (by simp; omega))
  have SL : Hid (Still base B w ((w.alloc (.cells #[.pointer (some ⟨B, 0, none⟩)] 28)).alloc (.cells #[.string t] 9))) := ((Still.refl base B w).alloc _).alloc _
  go_enter Try.func24, Try.ntmps24
  go_wp2_with (go_at_call 27; refine OC.out.mono ?_; rintro e w1 ⟨rfl, hA, hS⟩)
  go_end0
  exact ⟨rfl, hA, SL.out.trans hS⟩
set_option maxHeartbeats 1000000 in
theorem zzauth_any (base B : Nat) (t lo : ByteArray) (sp : List (Int × Int)) (m : Int) (w : World) (hs : t.size ≤ 900000000) (hlo : lo.size = t.size) (hsl : sp.length ≤ 10000)
    (h0 : 0 < base) (hB0 : 0 < B) (hm : w.cell? ⟨0, 0, none⟩ = some (.int .i64 m)) (h : ScanAt w base B t lo sp) (hb : base ≤ w.heap.size) :
    Calls Try.prog 12 #[.pointer (some ⟨B, 0, none⟩)] w fun e w' => e = .returned (.tuple #[]) ∧ ScanAt w' base B t lo (sp ++ scan t.data.toList lo.data.toList 0) ∧ Still base B w w' := by
  have AU := hide (auth_any base B t lo sp m w hs hlo hsl h0 hB0 hm h hb)
  clear h hm hlo
  go_enter Try.func12, Try.ntmps12
  go_wp2_with (go_at_call 24; refine AU.out.mono ?_; rintro e w' ⟨rfl, hA, hS⟩)
  go_end0
  exact ⟨rfl, hA, hS⟩
theorem TwoRows.mono {H H' : Nat} {wr : World} {vs ve : Value} {A E : List Int} (h : TwoRows H' wr vs ve A E) (hH : H ≤ H') : TwoRows H wr vs ve A E := by
  obtain ⟨h1, h2, h3⟩ := h
  exact ⟨ownsRow_weak h1 hH, ownsRow_weak h2 hH, h3⟩
theorem scanF_length (t lo : List UInt8) : ∀ n k, (scanF t lo n k).length ≤ n
  | 0, _ => by simp [scanF]
  | n + 1, k => by
    rw [scanF]
    split
    · split
      · simp
      · rw [List.length_append]
        have h1 := found_length (matchAt t (k + (Lib.index (lo.drop k) nameL).toNat))
        have h2 := scanF_length t lo n (nextOf (k + (Lib.index (lo.drop k) nameL).toNat) (matchAt t (k + (Lib.index (lo.drop k) nameL).toNat)))
        omega
    · simp
theorem scan_length (t lo : List UInt8) : (scan t lo 0).length ≤ lo.length + 1 := scanF_length t lo _ _
set_option maxHeartbeats 1000000 in
theorem authSpans_any (t lo : ByteArray) (m : Int) (w : World) (hs : t.size ≤ 900000000) (hlo : lo.size = t.size) (hm : w.cell? ⟨0, 0, none⟩ = some (.int .i64 m)) :
    Calls Try.prog 9 #[.string t, .string lo] w fun e w' => ∃ vs ve, e = .returned (.tuple #[vs, ve]) ∧ TwoRows w.heap.size w' vs ve ((scan t.data.toList lo.data.toList 0).map Prod.fst) ((scan t.data.toList lo.data.toList 0).map Prod.snd) ∧ Below w.heap.size w w' := by
  have hpos : 0 < w.heap.size := World.block_lt_of_cell? w ⟨0, 0, none⟩ hm
  have AU := hide (zzauth_any w.heap.size w.heap.size t lo [] m (w.alloc (.cells #[.string t, .string lo, .map none, .slice none 0 0] 43)) hs hlo (by simp) hpos hpos
    (by rw [World.cell?_alloc_past _ _ _ (by simpa using hpos)]; exact hm) (scan_new t lo w _) (by simp))
  have hsl := scan_length t.data.toList lo.data.toList
  rw [len_eq] at hsl
  rw [List.nil_append] at AU
  have hle : (scan t.data.toList lo.data.toList 0).length ≤ 1000000000 := by omega
  clear hm hlo hsl
  generalize scan t.data.toList lo.data.toList 0 = S at AU hle ⊢
  go_enter Try.func9, Try.ntmps9
  go_wp2_with (first | (go_at_call 10; refine (newScan_any _ _ _).mono ?_; rintro e w1 ⟨rfl, rfl⟩) | (go_at_call 12; refine AU.out.mono ?_; rintro e w1 ⟨rfl, hA, hS⟩; have SP := hide (spans_any _ _ _ _ _ _ hA hle)) | (go_at_call 13; refine SP.out.mono ?_; rintro e w2 ⟨vs, ve, rfl, hT, hb⟩))
  go_ret2
  have hz : w.heap.size ≤ w1.heap.size := by have := hS.size; simp at this; omega
  refine ⟨vs, ve, rfl, hT.mono hz, ?_⟩
  have b1 : Below w.heap.size w (w.alloc (.cells #[.string t, .string lo, .map none, .slice none 0 0] 43)) := (Below.refl _ _).alloc (Nat.le_refl _) _
  exact (b1.trans (hS.below (Nat.le_refl _) (Nat.le_refl _) (by simp))).trans (hb.mono hz)
end Go.Proofs.Qxb6616246a
