/-
  What every text of this seat stands on: what a call leaves as it was; rows of bytes.
-/
import Derived.Test.Qxb6616519aFmtRows
import Derived.WalkKit
import Derived.Deep.QuietTactic
import Derived.BigQuiet
import Derived.Laws.CopyOwn
import Derived.Laws.Cover3
import Derived.Laws.OwnMore
import Derived.RegionTactic
namespace Go.Proofs.Qxb6616519aFmt
set_option linter.unusedVariables false
open Go.RowKit
theorem hide {p : Prop} (h : p) : Hid p := h
/-- EVERY BLOCK BUT THOSE OF L STANDS AS IT STOOD. -/
structure Kept (L : List Nat) (w w' : World) : Prop where
  os : w'.os = w.os
  tape : w'.tape = w.tape
  output : w'.output = w.output
  size : w.heap.size ≤ w'.heap.size
  block : ∀ k, k < w.heap.size → k ∉ L → w'.heap[k]? = w.heap[k]?
theorem Kept.refl (L : List Nat) (w : World) : Kept L w w := ⟨rfl, rfl, rfl, Nat.le_refl _, fun _ _ _ => rfl⟩
theorem Kept.trans {L : List Nat} {a b c : World} (h : Kept L a b) (k : Kept L b c) : Kept L a c :=
  ⟨k.os.trans h.os, k.tape.trans h.tape, k.output.trans h.output, Nat.le_trans h.size k.size, fun i hi hn => (k.block i (Nat.lt_of_lt_of_le hi h.size) hn).trans (h.block i hi hn)⟩
/-- A later step may change what is new since the first world, too. -/
theorem Kept.trans_new {L M : List Nat} {a b c : World} (h : Kept L a b) (k : Kept M b c) (hm : ∀ x, x ∈ M → x ∈ L ∨ a.heap.size ≤ x) : Kept L a c :=
  ⟨k.os.trans h.os, k.tape.trans h.tape, k.output.trans h.output, Nat.le_trans h.size k.size, fun i hi hn =>
    (k.block i (Nat.lt_of_lt_of_le hi h.size) (fun e => (hm i e).elim hn (fun g => by omega))).trans (h.block i hi hn)⟩
theorem Kept.mono {L M : List Nat} {a b : World} (h : Kept L a b) (hm : ∀ x, x ∈ L → x ∈ M) : Kept M a b :=
  ⟨h.os, h.tape, h.output, h.size, fun i hi hn => h.block i hi (fun e => hn (hm i e))⟩
theorem Kept.drewN {L : List Nat} {a w : World} (h : Kept L a w) (n : Nat) : Kept L a (w.drewN n) := ⟨h.os, h.tape, h.output, h.size, h.block⟩
theorem Kept.drew {L : List Nat} {a w : World} (h : Kept L a w) : Kept L a w.drew := ⟨h.os, h.tape, h.output, h.size, h.block⟩
theorem Kept.alloc {L : List Nat} {a w : World} (h : Kept L a w) (o : Obj) : Kept L a (w.alloc o) :=
  ⟨h.os, h.tape, h.output, Nat.le_trans h.size (by simp), fun k hk hn => by rw [Below.heap_alloc _ _ _ (Nat.lt_of_lt_of_le hk h.size)]; exact h.block k hk hn⟩
theorem Kept.setCell {L : List Nat} {a w : World} (h : Kept L a w) (p : Addr) (hp : p.block ∈ L ∨ a.heap.size ≤ p.block) (v : Value) : Kept L a (w.setCell p v) :=
  ⟨h.os, h.tape, h.output, Nat.le_trans h.size (by simp), fun k hk hn => by
    rw [Below.heap_setCell _ _ _ _ (fun e => by subst e; exact hp.elim hn (fun g => by omega))]; exact h.block k hk hn⟩
theorem Kept.setRow {L : List Nat} {a w : World} (h : Kept L a w) (g : Nat) (hp : g ∈ L ∨ a.heap.size ≤ g) (cs : Array Value) : Kept L a (w.setRow g cs) :=
  ⟨h.os, h.tape, h.output, Nat.le_trans h.size (by simp), fun k hk hn => by
    rw [setRow_other w g k cs (fun e => by subst e; exact hp.elim hn (fun g => by omega))]; exact h.block k hk hn⟩
theorem Kept.of_below {L : List Nat} {a b : World} (h : Below a.heap.size a b) : Kept L a b := ⟨h.os, h.tape, h.output, h.size, fun k hk _ => h.block k hk⟩
theorem Kept.below {L : List Nat} {a b : World} (h : Kept L a b) (n : Nat) (hn : n ≤ a.heap.size) (hL : ∀ x, x ∈ L → n ≤ x) : Below n a b :=
  ⟨h.os, h.tape, h.output, h.size, fun k hk => h.block k (by omega) (fun e => by have := hL k e; omega)⟩
theorem Kept.heap {L : List Nat} {a b : World} (h : Kept L a b) {k : Nat} {o : Obj} (hk : a.heap[k]? = some o) (hn : k ∉ L) : b.heap[k]? = some o := by
  rw [h.block k (by rcases Nat.lt_or_ge k a.heap.size with h' | h'; exact h'; simp [Array.getElem?_eq_none h'] at hk) hn]; exact hk
theorem lt_of_block {w : World} {k : Nat} {o : Obj} (hk : w.heap[k]? = some o) : k < w.heap.size := by
  rcases Nat.lt_or_ge k w.heap.size with h' | h'
  · exact h'
  · simp [Array.getElem?_eq_none h'] at hk
theorem cell_at {w : World} {k : Nat} {cs : Array Value} {t : TypeId} {f : Nat × Nat} (h : w.heap[k]? = some (.cells cs t f)) (i : Nat) : w.cell? ⟨k, i, none⟩ = cs[i]? := by
  simp [World.cell?, h]
theorem frozen_at {w : World} {k : Nat} {cs : Array Value} {t : TypeId} (h : w.heap[k]? = some (.cells cs t (0, 0))) (i : Nat) : w.frozen? ⟨k, i, none⟩ = false := by
  simp [World.frozen?, h]
theorem heap_set {w : World} {k : Nat} {cs : Array Value} {t : TypeId} {f : Nat × Nat} (h : w.heap[k]? = some (.cells cs t f)) (i : Nat) (v : Value) : (w.setCell ⟨k, i, none⟩ v).heap[k]? = some (.cells (cs.setIfInBounds i v) t f) := by
  simp only [World.setCell, Array.getElem?_modify, h, if_pos, Option.map_some]
  rfl
theorem block_new (w : World) (o : Obj) : (w.alloc o).heap[w.heap.size]? = some o := by
  have h : (w.alloc o).heap = w.heap.push o := rfl
  rw [h]; simp
/-- The cells of a text's bytes. -/
def bytesV (X : List UInt8) : List Value := X.map fun c => Value.int .u8 (c.toNat : Int)
theorem bytesV_length (X : List UInt8) : (bytesV X).length = X.length := by simp [bytesV]
theorem bytesV_append (X Y : List UInt8) : bytesV (X ++ Y) = bytesV X ++ bytesV Y := by simp [bytesV]
theorem bytesV_one (X : List UInt8) : ∀ v ∈ bytesV X, v.oneCell' = true := by
  intro v hv
  simp only [bytesV, List.mem_map] at hv
  obtain ⟨c, _, rfl⟩ := hv
  rfl
/-- From block g's cell o on stand the bytes X. -/
def BytesAt (w : World) (g o : Nat) (X : List UInt8) : Prop := ∀ j v, (bytesV X)[j]? = some v → w.cell? ⟨g, o + j, none⟩ = some v
theorem BytesAt.of_heap {w w' : World} {g o : Nat} {X : List UInt8} (h : BytesAt w g o X) (e : w'.heap[g]? = w.heap[g]?) : BytesAt w' g o X :=
  fun j v hj => by rw [World.cell?_of_block (a := ⟨g, o + j, none⟩) e]; exact h j v hj
end Go.Proofs.Qxb6616519aFmt
