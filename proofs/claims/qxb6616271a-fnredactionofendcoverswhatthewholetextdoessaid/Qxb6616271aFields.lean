/-
  redaction, at every text; RedactionOfEnd; ZZredaction; ZZredactionFields.
-/
import Derived.Test.Qxb6616271aRedact2
namespace Go.Proofs.Qxb6616271a
set_option linter.unusedVariables false
open Go.RowKit
def texts (l : Pairs) : List (List UInt8) := l.map fun p => p.1.data.toList
def mls (l : Pairs) : List Nat := l.map fun p => (markB p.2).size
set_option maxRecDepth 100000 in
set_option maxHeartbeats 1000000 in
theorem redaction_empty (S cap : Nat) (a : Option Addr) (v : Value) (X : List UInt8) (cut : Bool) (w : World)
    (hS : w.heap[S]? = some (.cells #[.map none, .slice a 0 cap] 47 (0, 0))) (hv : TextV X v) (ml : List Nat) :
    Calls Try.prog 19 #[.pointer (some ⟨S, 0, none⟩), v, .bool cut, .bool false] w fun e w' => ∃ R, e = .returned (.pointer (some ⟨R, 0, none⟩)) ∧ RedDone w' R X none ml ∧ Below w.heap.size w w' := by
  have s1 : w.cell? ⟨S, 1, none⟩ = some (.slice a 0 cap) := by simp [World.cell?, hS]
  have hSl : S < w.heap.size := World.block_lt_of_cell? _ _ s1
  have s2 : ∀ o o' o'', (((w.alloc o).alloc o').alloc o'').cell? ⟨S, 1, none⟩ = some (.slice a 0 cap) := fun o o' o'' => by
    rw [World.cell?_alloc_past _ _ _ (show S < _ by simp only [World.size_alloc]; omega), World.cell?_alloc_past _ _ _ (show S < _ by simp only [World.size_alloc]; omega), World.cell?_alloc_past _ _ _ hSl]; exact s1
  have hvv : ∃ a cp, v = .slice a X.length cp := by
    rcases hv with ⟨rfl, rfl⟩ | ⟨g, rfl⟩
    · exact ⟨_, _, rfl⟩
    · exact ⟨_, _, rfl⟩
  clear hv hS
  obtain ⟨b, cp, rfl⟩ := hvv
  have HI := hide (St.start w (.slice b X.length cp) (.int .i64 X.length))
  go_enter Try.func19, Try.ntmps19
  go_wp2
  go_ret
  obtain ⟨vc, r1, r2⟩ := HI.out.red
  obtain rfl : vc = .slice none 0 0 := r2
  exact ⟨_, rfl, ⟨_, _, _, r1, rfl⟩, HI.out.below⟩
theorem redM_nil (cut : Bool) : ∀ (ts : List (List UInt8)) (i : Nat), (∀ t ∈ ts, 0 < t.length) → redM cut [] i ts none = none
  | [], _, _ => rfl
  | t :: ts, i, h => by
    have e : stepM cut [] i t none = none := by
      unfold stepM
      rw [occ_nil t _ _ (h t (by simp))]
      have hb : brk [] t = 0 := by have := brk_le [] t; simpa using this
      rw [hb]
      cases cut <;> simp [coverM]
    rw [redM, e]
    exact redM_nil cut ts (i + 1) (fun t' ht' => h t' (by simp [ht']))
theorem redaction_any (S bS : Nat) (l : Pairs) (v : Value) (X : List UInt8) (cut : Bool) (m : Int) (w : World) (hS : SecAt w bS S l) (hX : ReadsB w v X) (hv : TextV X v) (hn : X.length ≤ 1048576) (hl : l.length ≤ 65536)
    (hp : ∀ i, i < l.length → 0 < (l.getD i P0).1.size ∧ (l.getD i P0).1.size ≤ 1048576 ∧ (l.getD i P0).2.size ≤ 1048576) (hm : w.cell? ⟨0, 0, none⟩ = some (.int .i64 m)) :
    Calls Try.prog 19 #[.pointer (some ⟨S, 0, none⟩), v, .bool cut, .bool false] w fun e w' => ∃ R, e = .returned (.pointer (some ⟨R, 0, none⟩)) ∧ RedDone w' R X (redM cut X 0 (texts l) none) (mls l) ∧ Below w.heap.size w w' := by
  obtain ⟨vS, hS, hO⟩ := hS
  by_cases h0 : l.length = 0
  · have hl : l = [] := List.eq_nil_of_length_eq_zero h0
    subst hl
    have : ∃ a cap, vS = .slice a 0 cap := by
      rcases hO.2 with ⟨rfl, _⟩ | ⟨g, cap, cur, rfl, _⟩
      · exact ⟨_, _, rfl⟩
      · exact ⟨_, _, rfl⟩
    obtain ⟨a, cap, rfl⟩ := this
    exact redaction_empty S cap a v X cut w hS hv _
  · have hne : ¬ vS = .slice none 0 0 := by
      intro e
      subst e
      rcases hO.2 with ⟨_, h⟩ | ⟨g, cap, cur, h, _⟩
      · exact h0 h
      · simp at h
    obtain ⟨g, cap, rfl⟩ := not_nil hO hne
    rcases hv with ⟨rfl, rfl⟩ | ⟨gt, rfl⟩
    · rw [redM_nil cut (texts l) 0 (fun t ht => by
        unfold texts at ht
        rw [List.mem_map] at ht
        obtain ⟨p, hp1, rfl⟩ := ht
        obtain ⟨i, hi, rfl⟩ := List.getElem_of_mem hp1
        have := (hp i hi).1
        rw [List.getD, List.getElem?_eq_getElem hi] at this
        rw [len_eq]
        exact this)]
      exact redaction_nil S bS g cap l cut w (by omega) hS hO hl hp _
    · exact redaction_some S bS g cap gt l X cut m w (by omega) hS hO hX hn hl hp hm
set_option maxHeartbeats 1000000 in
theorem of_end (S bS : Nat) (l : Pairs) (v : Value) (X : List UInt8) (m : Int) (w : World) (hS : SecAt w bS S l) (hX : ReadsB w v X) (hv : TextV X v) (hn : X.length ≤ 1048576) (hl : l.length ≤ 65536)
    (hp : ∀ i, i < l.length → 0 < (l.getD i P0).1.size ∧ (l.getD i P0).1.size ≤ 1048576 ∧ (l.getD i P0).2.size ≤ 1048576) (hm : w.cell? ⟨0, 0, none⟩ = some (.int .i64 m)) :
    Calls Try.prog 14 #[.pointer (some ⟨S, 0, none⟩), v] w fun e w' => ∃ R, e = .returned (.pointer (some ⟨R, 0, none⟩)) ∧ RedDone w' R X (redM true X 0 (texts l) none) (mls l) ∧ Below w.heap.size w w' := by
  have H := hide (redaction_any S bS l v X true m w hS hX hv hn hl hp hm)
  clear hS hX hv hp
  generalize redM true X 0 (texts l) none = C at H ⊢
  go_enter Try.func14, Try.ntmps14
  go_wp2_with (go_at_call 19; refine H.out.mono ?_; rintro e w' ⟨R, rfl, h1, h2⟩)
  go_ret
  exact ⟨R, rfl, h1, h2⟩
set_option maxHeartbeats 1000000 in
theorem zz_red (S bS : Nat) (l : Pairs) (v : Value) (X : List UInt8) (m : Int) (w : World) (hS : SecAt w bS S l) (hX : ReadsB w v X) (hv : TextV X v) (hn : X.length ≤ 1048576) (hl : l.length ≤ 65536)
    (hp : ∀ i, i < l.length → 0 < (l.getD i P0).1.size ∧ (l.getD i P0).1.size ≤ 1048576 ∧ (l.getD i P0).2.size ≤ 1048576) (hm : w.cell? ⟨0, 0, none⟩ = some (.int .i64 m)) :
    Calls Try.prog 15 #[.pointer (some ⟨S, 0, none⟩), v, .bool false, .bool false] w fun e w' => ∃ R, e = .returned (.pointer (some ⟨R, 0, none⟩)) ∧ RedDone w' R X (redM false X 0 (texts l) none) (mls l) ∧ Below w.heap.size w w' := by
  have H := hide (redaction_any S bS l v X false m w hS hX hv hn hl hp hm)
  clear hS hX hv hp
  generalize redM false X 0 (texts l) none = C at H ⊢
  go_enter Try.func15, Try.ntmps15
  go_wp2_with (go_at_call 19; refine H.out.mono ?_; rintro e w' ⟨R, rfl, h1, h2⟩)
  go_ret
  exact ⟨R, rfl, h1, h2⟩
theorem results_tmp4 {fn : Func} {t u v x : Tmp} (h : fn.results = #[.tmp t, .tmp u, .tmp v, .tmp x]) (tmps : Array Value) (P : Program) (w : World) :
    (results fn tmps).run P w = .ok (.tuple #[tmps.getD t undef, tmps.getD u undef, tmps.getD v undef, tmps.getD x undef]) w := by
  simp [results, h]
set_option maxHeartbeats 1000000 in
theorem fields_any (R : Nat) (v vc vm : Value) (ln : Int) (w : World) (h : w.heap[R]? = some (.cells #[v, vc, vm, .int .i64 ln] 52 (0, 0))) :
    Calls Try.prog 16 #[.pointer (some ⟨R, 0, none⟩)] w fun e w' => e = .returned (.tuple #[v, vc, vm, .int .i64 ln]) ∧ ∃ q, w' = w.drewN q := by
  have c0 : w.cell? ⟨R, 0, none⟩ = some v := by simp [World.cell?, h]
  have c1 : w.cell? ⟨R, 1, none⟩ = some vc := by simp [World.cell?, h]
  have c2 : w.cell? ⟨R, 2, none⟩ = some vm := by simp [World.cell?, h]
  have c3 : w.cell? ⟨R, 3, none⟩ = some (.int .i64 ln) := by simp [World.cell?, h]
  clear h
  go_enter Try.func16, Try.ntmps16
  go_wp2
  go_quiet (fail)
  go_wp2
  refine bodyPost_ret (results_tmp4 rfl _ _ _) rfl ?_
  exact ⟨rfl, _, rfl⟩
end Go.Proofs.Qxb6616271a
