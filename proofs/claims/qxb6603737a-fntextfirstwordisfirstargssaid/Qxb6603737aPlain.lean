/-
  Plain: where the first word of a text ends.
-/
import Derived.Lib.IndexLaws
namespace Go.Proofs.Qxb6603737a.Pl

def blank (c : UInt8) : Bool := c == 32 || c == 9
/-- The index of the first blank, or the length. -/
def we (l : List UInt8) : Nat := (l.takeWhile fun c => !blank c).length
/-- The bytes before the first c. -/
def upto (c : UInt8) (l : List UInt8) : List UInt8 := l.takeWhile fun b => !(b == c)

theorem upto_le (c : UInt8) (l : List UInt8) : (upto c l).length ≤ l.length := (List.takeWhile_prefix _).length_le
theorem upto_take (c : UInt8) (l : List UInt8) : upto c l = l.take (upto c l).length := List.prefix_iff_eq_take.1 (List.takeWhile_prefix _)
theorem upto_idx (c : UInt8) : ∀ (l : List UInt8), (Lib.indexByte l c = -1 ∧ upto c l = l) ∨ (Lib.indexByte l c = ((upto c l).length : Int) ∧ (upto c l).length < l.length)
  | [] => .inl ⟨rfl, rfl⟩
  | b :: l => by
    unfold Lib.indexByte upto
    rw [List.takeWhile_cons]
    cases hb : b == c
    · simp only [Bool.not_false, if_true]
      rcases upto_idx c l with ⟨h1, h2⟩ | ⟨h1, h2⟩
      · left; unfold upto at h2; rw [h1, h2]; simp
      · right
        unfold upto at h1 h2
        rw [h1]
        refine ⟨?_, by simpa using h2⟩
        rw [if_neg (by simp), if_neg (by simp)]; simp
    · right; simp
theorem we_le (l : List UInt8) : we l ≤ l.length := (List.takeWhile_prefix _).length_le
/-- A tab before the first space, or the first space, or the end. -/
theorem we_eq : ∀ (l : List UInt8), we l = (upto 9 (upto 32 l)).length
  | [] => rfl
  | c :: l => by
    have ih := we_eq l
    unfold we upto at ih ⊢
    rw [List.takeWhile_cons, List.takeWhile_cons]
    unfold blank
    unfold blank at ih
    cases h : c == 32
    · cases h9 : c == 9
      · simp only [Bool.or_false, Bool.not_false, if_true]
        rw [List.takeWhile_cons, h9]
        simp only [Bool.not_false, if_true, List.length_cons]
        rw [ih]
      · simp only [Bool.not_false, if_true]
        rw [List.takeWhile_cons, h9]
        rfl
    · rfl
theorem we_nil : we [] = 0 := rfl
theorem we_cons (c : UInt8) (l : List UInt8) : we (c :: l) = if blank c then 0 else we l + 1 := by
  unfold we
  rw [List.takeWhile_cons]
  cases blank c <;> simp
theorem we_all (l : List UInt8) (h : ∀ c ∈ l, blank c = false) : we l = l.length := by
  induction l with
  | nil => rfl
  | cons c l ih => rw [we_cons, h c (by simp), ih (fun d hd => h d (by simp [hd]))]; simp
/-- The first word of a text that goes on with a space behind a is that of a. -/
theorem we_append (a r : List UInt8) (hr : r = [] ∨ ∃ r', r = 32 :: r') : we (a ++ r) = we a := by
  induction a with
  | nil =>
    rcases hr with rfl | ⟨r', rfl⟩
    · rfl
    · rw [List.nil_append, we_cons]; rfl
  | cons c a ih => rw [List.cons_append, we_cons, we_cons, ih]

end Go.Proofs.Qxb6603737a.Pl
