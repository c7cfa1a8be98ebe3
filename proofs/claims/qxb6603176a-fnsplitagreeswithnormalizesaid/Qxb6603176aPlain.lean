/-
  The plain functions over bytes that the Go functions on the road compute (no Go in sight).
-/
import Derived.Lib.IndexLaws
namespace Go.Proofs.Qxb6603176a.Pl

def dash (c : UInt8) : UInt8 := if c == 95 then 45 else c
def low (c : UInt8) : UInt8 := if 65 ≤ c && c ≤ 90 then c + 32 else c
def up (c : UInt8) : UInt8 := if 97 ≤ c && c ≤ 122 then c - 32 else c
def isL (c : UInt8) : Bool := (97 ≤ c && c ≤ 122) || (65 ≤ c && c ≤ 90)
def isD (c : UInt8) : Bool := 48 ≤ c && c ≤ 57
def title : List UInt8 → List UInt8
  | [] => []
  | c :: l => up c :: l.map low
def caseL (c : UInt8) (n j index : Nat) (ext : Bool) : UInt8 :=
  if isL c then (if decide (0 < index) && !ext && (n == 2 || n == 4 && j == 0) then up c else low c) else c

def isAll (l : List UInt8) (a d : Bool) : Bool := l.all fun c => a && isL c || d && isD c
def isExt (l : List UInt8) : Bool := l.length == 3 && isAll l true false
def isScr (l : List UInt8) : Bool := l.length == 4 && isAll l true false
def isReg (l : List UInt8) : Bool := l.length == 2 && isAll l true false || l.length == 3 && isAll l false true

/-- The bytes before the first dash. -/
def word (l : List UInt8) : List UInt8 := l.takeWhile fun c => c != 45
def sub (t : List UInt8) (i : Nat) : List UInt8 := if t.length ≤ i then [] else word (t.drop (i + 1))

theorem word_le (l : List UInt8) : (word l).length ≤ l.length := by
  unfold word; exact (List.takeWhile_prefix _).length_le
theorem word_eq_take (l : List UInt8) : word l = l.take (word l).length := by
  unfold word; exact List.prefix_iff_eq_take.1 (List.takeWhile_prefix _)
theorem word_idx : ∀ (l : List UInt8), (Lib.indexByte l 45 = -1 ∧ word l = l) ∨ (Lib.indexByte l 45 = (word l).length ∧ (word l).length < l.length)
  | [] => .inl ⟨rfl, rfl⟩
  | b :: l => by
    unfold Lib.indexByte word
    by_cases hb : b = 45
    · subst hb; right; simp
    · have hb' : (b == 45) = false := by simpa using hb
      rw [List.takeWhile_cons]
      simp only [hb', bne, Bool.not_false, if_true]
      rcases word_idx l with ⟨h1, h2⟩ | ⟨h1, h2⟩
      · left; simp only [h1]; unfold word at h2; simp only [bne] at h2; rw [h2]; simp
      · right
        unfold word at h1 h2; simp only [bne] at h1 h2
        rw [h1]
        refine ⟨?_, by simpa using h2⟩
        rw [if_neg (by simp), if_neg (by simp)]; simp

/-- What 'split' gives: ok, and the ends of the language, the script and the region. -/
structure Parts where
  lang : List UInt8
  script : List UInt8
  region : List UInt8
  le : Nat
  se : Nat
  re : Nat
  ok : Bool

def endA (t : List UInt8) : Nat := (word t).length
def okA (t : List UInt8) : Bool := decide (2 ≤ endA t) && decide (endA t ≤ 8) && isAll (word t) true false
def endB (t : List UInt8) : Nat := if decide (endA t ≤ 3) && isExt (sub t (endA t)) then endA t + 4 else endA t
def endC (t : List UInt8) : Nat := if isScr (sub t (endB t)) then endB t + 5 else endB t
def endD (t : List UInt8) : Nat := if isReg (sub t (endC t)) then endC t + 1 + (sub t (endC t)).length else endC t
def parts (t : List UInt8) : Parts :=
  if okA t then
    { lang := t.take (endB t), script := if isScr (sub t (endB t)) then sub t (endB t) else [], region := if isReg (sub t (endC t)) then sub t (endC t) else [],
      le := endB t, se := endC t, re := endD t, ok := true }
  else { lang := [], script := [], region := [], le := 0, se := 0, re := 0, ok := false }

/-- One subtag, cased. -/
def fmt (cur : List UInt8) (index : Nat) (ext : Bool) : List UInt8 := cur.mapIdx fun j c => caseL c cur.length j index ext
def sep (c : UInt8) : Bool := c == 45 || c == 95
def nextExt (cur : List UInt8) (ext : Bool) : Bool := ext || cur.length == 1
def go : List UInt8 → List UInt8 → Nat → Bool → List UInt8
  | [], cur, index, ext => fmt cur index (nextExt cur ext)
  | c :: r, cur, index, ext => if sep c then fmt cur index (nextExt cur ext) ++ 45 :: go r [] (index + 1) (nextExt cur ext) else go r (cur ++ [c]) index ext
def norm (t : List UInt8) : List UInt8 := go t [] 0 false

theorem fmt_length (cur : List UInt8) (index : Nat) (ext : Bool) : (fmt cur index ext).length = cur.length := by simp [fmt]

theorem go_length : ∀ (r cur : List UInt8) (index : Nat) (ext : Bool), (go r cur index ext).length = cur.length + r.length
  | [], cur, index, ext => by simp [go, fmt_length]
  | c :: r, cur, index, ext => by
    unfold go
    split
    · simp [fmt_length, go_length r]
    · rw [go_length r]; simp; omega
theorem norm_length (t : List UInt8) : (norm t).length = t.length := by simp [norm, go_length]

end Go.Proofs.Qxb6603176a.Pl
