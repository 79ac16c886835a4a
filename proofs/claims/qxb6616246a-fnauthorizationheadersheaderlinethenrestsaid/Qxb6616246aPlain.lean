/-
  Plain functions on lists of bytes: what the Go functions of this seat's road compute. No Go in sight.
-/
import Derived.Lib.Strings
import Derived.Lib.Bytealg
import Derived.Lib.IndexLaws
namespace Go.Proofs.Qxb6616246a
open Go.Lib

def blank (c : UInt8) : Bool := c == 32 || c == 9
def quoteB (c : UInt8) : Bool := c == 34 || c == 39
def lend (c : UInt8) : Bool := c == 10 || c == 13
def letter (c : UInt8) : Bool := (decide (97 ≤ c) && decide (c ≤ 122)) || (decide (65 ≤ c) && decide (c ≤ 90))
def digit (c : UInt8) : Bool := decide (48 ≤ c) && decide (c ≤ 57)
def alnum (c : UInt8) : Bool := letter c || digit c
def nameCh (c : UInt8) : Bool := alnum c || c == 95 || c == 45
def notLend (c : UInt8) : Bool := !lend c

/-- 'run(text, i, p)'. -/
def runTo (p : UInt8 → Bool) (t : List UInt8) (i : Nat) : Nat := i + ((t.drop i).takeWhile p).length

theorem drop_cons (t : List UInt8) (k : Nat) (h : k < t.length) : t.drop k = t[k] :: t.drop (k + 1) := List.drop_eq_getElem_cons h

theorem runTo_step {p : UInt8 → Bool} {t : List UInt8} {k : Nat} (h : k < t.length) (hp : p t[k] = true) : runTo p t k = runTo p t (k + 1) := by
  unfold runTo
  rw [drop_cons t k h, List.takeWhile_cons, hp]
  simp
  omega

theorem runTo_stop {p : UInt8 → Bool} {t : List UInt8} {k : Nat} (h : k < t.length) (hp : p t[k] = false) : runTo p t k = k := by
  unfold runTo
  rw [drop_cons t k h, List.takeWhile_cons, hp]
  simp

theorem runTo_end {p : UInt8 → Bool} {t : List UInt8} {k : Nat} (h : t.length ≤ k) : runTo p t k = k := by
  unfold runTo
  rw [List.drop_of_length_le h]
  simp

theorem runTo_ge (p : UInt8 → Bool) (t : List UInt8) (k : Nat) : k ≤ runTo p t k := by unfold runTo; omega

theorem takeWhile_len_le (p : UInt8 → Bool) (l : List UInt8) : (l.takeWhile p).length ≤ l.length := (List.takeWhile_sublist p).length_le

theorem runTo_le (p : UInt8 → Bool) (t : List UInt8) (k : Nat) (h : k ≤ t.length) : runTo p t k ≤ t.length := by
  unfold runTo
  have := takeWhile_len_le p (t.drop k)
  rw [List.length_drop] at this
  omega


/-- 'closingQuote' behind its opening quote: how far the closing quote, or the line's end, lies. -/
def cqL (q : UInt8) : List UInt8 → Nat
  | [] => 0
  | [c] => if c == q || lend c then 0 else 1
  | c :: d :: l => if c == q || lend c then 0 else if c == 92 && notLend d then 2 + cqL q l else 1 + cqL q (d :: l)

theorem cqL_le (q : UInt8) : ∀ (n : Nat) (l : List UInt8), l.length ≤ n → cqL q l ≤ l.length
  | _, [], _ => by simp [cqL]
  | _, [c], _ => by unfold cqL; split <;> simp
  | 0, _ :: _ :: _, h => by simp at h
  | n + 1, c :: d :: l, h => by
    simp only [List.length_cons] at h ⊢
    have h1 := cqL_le q n l (by omega)
    have h2 := cqL_le q n (d :: l) (by simp; omega)
    simp only [List.length_cons] at h2
    unfold cqL
    split
    · omega
    · split <;> omega

def cqTo (q : UInt8) (t : List UInt8) (k : Nat) : Nat := k + cqL q (t.drop k)

theorem cqTo_le (q : UInt8) (t : List UInt8) (k : Nat) (h : k ≤ t.length) : cqTo q t k ≤ t.length := by
  unfold cqTo
  have := cqL_le q _ (t.drop k) (Nat.le_refl _)
  rw [List.length_drop] at this
  omega

theorem cqTo_ge (q : UInt8) (t : List UInt8) (k : Nat) : k ≤ cqTo q t k := by unfold cqTo; omega

theorem cqTo_end {q : UInt8} {t : List UInt8} {k : Nat} (h : t.length ≤ k) : cqTo q t k = k := by
  unfold cqTo; rw [List.drop_of_length_le h]; simp [cqL]

theorem cqTo_stop {q : UInt8} {t : List UInt8} {k : Nat} (h : k < t.length) (hc : (t[k] == q || lend t[k]) = true) : cqTo q t k = k := by
  unfold cqTo
  rw [drop_cons t k h]
  cases hd : t.drop (k + 1) with
  | nil => simp only [cqL, hc]; rfl
  | cons d l => simp only [cqL, hc]; rfl

theorem cqTo_two {q : UInt8} {t : List UInt8} {k : Nat} (h : k + 1 < t.length) (hc : (t[k] == q || lend t[k]) = false) (h92 : (t[k] == 92) = true) (hn : notLend t[k + 1] = true) : cqTo q t k = cqTo q t (k + 2) := by
  unfold cqTo
  rw [show k + 2 = k + 1 + 1 from rfl, drop_cons t k (by omega), drop_cons t (k + 1) h]
  simp only [cqL, hc, h92, hn]
  simp
  omega

theorem cqTo_one {q : UInt8} {t : List UInt8} {k : Nat} (h : k < t.length) (hc : (t[k] == q || lend t[k]) = false) (hn : (t[k] == 92) = true → ∀ h1 : k + 1 < t.length, notLend t[k + 1] = false) : cqTo q t k = cqTo q t (k + 1) := by
  unfold cqTo
  rw [drop_cons t k (by omega)]
  by_cases h1 : k + 1 < t.length
  · rw [drop_cons t (k + 1) h1]
    have : (t[k] == 92 && notLend t[k + 1]) = false := by
      cases h9 : (t[k] == 92)
      · rfl
      · rw [hn h9 h1]; rfl
    simp only [cqL, hc, this]
    simp
    omega
  · rw [List.drop_of_length_le (by omega : t.length ≤ k + 1)]
    simp only [cqL, hc]
    simp

/-- 'joinsText' of the text from there on. -/
def joinersL : List UInt8 := [43, 46, 38, 124, 60, 126, 37]
def ob (f : UInt8 → Bool) : Option UInt8 → Bool
  | some c => f c
  | none => false
def joinC (c : UInt8) : Bool := alnum c || c == 36
def joinD (c : UInt8) : Bool := quoteB c || decide (0 ≤ indexByte joinersL c)
def joinsAt (t : List UInt8) (i : Nat) : Bool := ob joinC t[i]? || ob joinD t[runTo blank t i]?

/-- 'quotedValueEnd(text, i)'. -/
def qveAt (t : List UInt8) (i : Nat) (q : UInt8) : Nat :=
  if joinsAt t (cqTo q t (i + 1) + 1) then runTo notLend t (cqTo q t (i + 1)) else cqTo q t (i + 1)

/-- 'namedAlone(text, start, end)': 'q' the byte at end. -/
def backTo (t : List UInt8) : Nat → Nat
  | 0 => 0
  | k + 1 => if nameCh (t.getD k 0) then backTo t k else k + 1
def aloneB (t : List UInt8) (q : UInt8) : Nat → Bool
  | 0 => false
  | k + 1 => t.getD k 0 == q
def aloneAt (t : List UInt8) (st : Nat) (q : UInt8) : Bool := aloneB t q (backTo t st)

def sw (t : List UInt8) (i : Nat) (p : List UInt8) : Bool := hasPrefix (t.drop i) p

/-- 'headerValueFrom(text, start, end)'. -/
def hvK (t : List UInt8) (en : Nat) : Nat := runTo blank t (if ob quoteB t[en]? then en + 1 else en)
def hvfAt (t : List UInt8) (st en : Nat) : Option Nat :=
  if sw t (hvK t en) [58] then (if sw t (hvK t en) [58, 58] then none else some (hvK t en + 1))
  else match t[en]? with
    | none => none
    | some q =>
      if quoteB q && aloneAt t st q then
        if sw t (hvK t en) [44] then some (hvK t en + 1)
        else
          let k := if sw t (hvK t en) [93] then runTo blank t (hvK t en + 1) else hvK t en
          if sw t k [61, 62] then some (k + 2)
          else if sw t k [61] && !sw t k [61, 61] then some (k + 1) else none
      else none

/-- What the closure of 'authorizationHeaders' finds at a place where the name stands: where the value starts and ends. -/
def valueAt (t : List UInt8) (st : Nat) : Option (Nat × Nat) :=
  if ob quoteB t[st]? then (if qveAt t st (t.getD st 0) == st + 1 then none else some (st + 1, qveAt t st (t.getD st 0)))
  else (if runTo notLend t st == st then none else some (st, runTo notLend t st))
def matchAt (t : List UInt8) (i : Nat) : Option (Nat × Nat) :=
  match hvfAt t i (i + 13) with
  | none => none
  | some f => valueAt t (runTo blank t f)
def nextOf (i : Nat) : Option (Nat × Nat) → Nat
  | none => i + 1
  | some p => p.2
def found : Option (Nat × Nat) → List (Int × Int)
  | none => []
  | some p => [((p.1 : Int), (p.2 : Int))]

theorem sw_lt_len {t : List UInt8} {k : Nat} {c : UInt8} {l : List UInt8} (h : sw t k (c :: l) = true) : k + l.length + 1 ≤ t.length := by
  unfold sw hasPrefix at h
  have := (List.isPrefixOf_iff_prefix.1 h).length_le
  rw [List.length_drop] at this
  simp only [List.length_cons] at this
  omega

theorem hvf_le {t : List UInt8} {st en f : Nat} (h : hvfAt t st en = some f) : f ≤ t.length := by
  unfold hvfAt at h
  split at h
  · rename_i h1
    split at h
    · cases h
    · have := sw_lt_len h1
      simp only [Option.some.injEq, List.length_nil] at h this
      omega
  · split at h
    · cases h
    · split at h
      · split at h
        · rename_i h2
          have := sw_lt_len h2
          simp only [Option.some.injEq, List.length_nil] at h this
          omega
        · simp only at h
          generalize (if sw t (hvK t en) [93] = true then runTo blank t (hvK t en + 1) else hvK t en) = k at h
          split at h
          · rename_i h3
            have := sw_lt_len h3
            simp only [Option.some.injEq, List.length_nil, List.length_cons] at h this
            omega
          · split at h
            · rename_i h4
              rw [Bool.and_eq_true] at h4
              have := sw_lt_len h4.1
              simp only [Option.some.injEq, List.length_nil] at h this
              omega
            · cases h
      · cases h

end Go.Proofs.Qxb6616246a
