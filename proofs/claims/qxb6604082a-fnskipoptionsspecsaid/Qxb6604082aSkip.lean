/-
  skipOptions: what it drops, and its walk.
-/
import Derived.Test.Qxb6604082aWalk
namespace Go.Proofs.Qxb6604082a
open Go.RowKit
set_option linter.unusedVariables false

/-- The first k bytes of t are a run of options. -/
structure Inv (t : List UInt8) (k : Nat) : Prop where
  le : k ≤ t.length
  first : 0 < k → t[0]? = some 45
  inner : ∀ i, i + 1 < k → t[i]? = some 32 → t[i + 1]? = some 45
  last : 0 < k → k < t.length → t[k - 1]? = some 32

theorem inv_zero (t : List UInt8) : Inv t 0 := ⟨Nat.zero_le _, fun h => by omega, fun i h => by omega, fun h => by omega⟩

theorem upto_le (l : List UInt8) : (upto l).length ≤ l.length := (List.takeWhile_prefix _).length_le
theorem upto_ne : ∀ (l : List UInt8) (i : Nat), i < (upto l).length → l[i]? ≠ some 32
  | [], i, h => by simp [upto] at h
  | c :: l, i, h => by
    unfold upto at h
    rw [List.takeWhile_cons] at h
    cases hc : c == 32
    · rw [hc] at h
      simp only [Bool.not_false, if_true, List.length_cons] at h
      cases i with
      | zero => simpa using hc
      | succ i => simpa using upto_ne l i (by unfold upto; omega)
    · rw [hc] at h; simp at h
theorem upto_at : ∀ (l : List UInt8), (upto l).length < l.length → l[(upto l).length]? = some 32
  | [], h => by simp at h
  | c :: l, h => by
    cases hc : c == 32
    · have e : upto (c :: l) = c :: upto l := by unfold upto; rw [List.takeWhile_cons, hc]; rfl
      rw [e, List.length_cons, List.length_cons] at h
      rw [e, List.length_cons, List.getElem?_cons_succ]
      exact upto_at l (by omega)
    · have e : upto (c :: l) = [] := by unfold upto; rw [List.takeWhile_cons, hc]; rfl
      rw [e, beq_iff_eq.1 hc]; rfl

theorem inv_step (t : List UInt8) (k : Nat) (h : Inv t k) (hd : dashed (t.drop k) = true) : ∃ k', k < k' ∧ Inv t k' ∧ after (t.drop k) = t.drop k' := by
  have hk : k < t.length := by
    rcases Nat.lt_or_ge k t.length with h' | h'
    · exact h'
    · rw [List.drop_of_length_le h'] at hd; cases hd
  have hk45 : t[k]? = some 45 := by
    rw [List.drop_eq_getElem_cons hk] at hd
    rw [List.getElem?_eq_getElem hk]
    unfold dashed at hd
    simpa using hd
  have hfirst : t[0]? = some 45 := by
    rcases Nat.eq_zero_or_pos k with h0 | h0
    · subst h0; exact hk45
    · exact h.first h0
  have hle := upto_le (t.drop k)
  rw [List.length_drop] at hle
  have hne := upto_ne (t.drop k)
  have hin : ∀ i, i < k + (upto (t.drop k)).length → t[i]? = some 32 → t[i + 1]? = some 45 := by
    intro i hi hs
    rcases Nat.lt_trichotomy (i + 1) k with h1 | h1 | h1
    · exact h.inner i h1 hs
    · rw [h1]; exact hk45
    · exact absurd (by rw [List.getElem?_drop, show k + (i - k) = i by omega]; exact hs) (hne (i - k) (by omega))
  by_cases hu : (upto (t.drop k)).length < t.length - k
  · refine ⟨k + (upto (t.drop k)).length + 1, by omega, ⟨by omega, fun _ => hfirst, fun i hi => hin i (by omega), fun _ _ => ?_⟩, ?_⟩
    · have := upto_at (t.drop k) (by rw [List.length_drop]; exact hu)
      rw [List.getElem?_drop] at this
      rw [show k + (upto (t.drop k)).length + 1 - 1 = k + (upto (t.drop k)).length by omega]
      exact this
    · unfold after; rw [List.drop_drop]; congr 1
  · refine ⟨t.length, hk, ⟨Nat.le_refl _, fun _ => hfirst, fun i hi => hin i (by omega), fun _ hl => by omega⟩, ?_⟩
    unfold after
    rw [List.drop_drop, List.drop_of_length_le (by omega), List.drop_length]

/-- What skipOptions gives: the text from place k on, the first k bytes a run of options, no dash at its head. -/
def SkipEnds (s : ByteArray) (e : Ending) : Prop := ∃ (a : ByteArray) (k : Nat), e = .returned (.string a) ∧ Inv s.data.toList k ∧ a.data.toList = s.data.toList.drop k ∧ dashed a.data.toList = false

def strLen : Value → Nat
  | .string a => a.size
  | _ => 0

set_option maxHeartbeats 1000000 in
theorem skip_any (s : ByteArray) (w : World) (hs : s.size ≤ 1048576) :
    Calls Try.prog 9 #[.string s] w fun e w' => SkipEnds s e ∧ Below w.heap.size w w' := by
  go_enter Try.func9, Try.ntmps9
  go_wp2_with fail
  go_loopw [0] (fun v wr => ∃ (a : ByteArray) (k : Nat), v = .string a ∧ a.size ≤ 1048576 ∧ Hid (Inv s.data.toList k ∧ a.data.toList = s.data.toList.drop k) ∧ Hid (Below w.heap.size w wr)) (fun v _ => strLen v)
  case atStart => exact ⟨s, 0, rfl, hs, ⟨inv_zero _, rfl⟩, Below.refl _ _⟩
  case round =>
    obtain ⟨a, k, rfl, hsz, hI, hB⟩ := hrel
    cases hd : dashed a.data.toList
    · have C : Hid (∀ W, Calls Try.prog 11 #[.string a, .string ⟨#[45]⟩] W fun e w' => e = .returned (.bool false) ∧ w' = W) := fun W => by
        have := hasPrefix_any a W hsz
        rw [hd] at this
        exact this
      have HD : Hid (dashed a.data.toList = false) := hd
      clear hd
      go_wp2_with fail
      refine (C.out _).mono ?_
      rintro e w' ⟨rfl, rfl⟩
      go_wp2_with fail
      go_ret
      exact ⟨⟨a, k, rfl, hI.out.1, hI.out.2, HD.out⟩, hB.out⟩
    · have C : Hid (∀ W, Calls Try.prog 11 #[.string a, .string ⟨#[45]⟩] W fun e w' => e = .returned (.bool true) ∧ w' = W) := fun W => by
        have := hasPrefix_any a W hsz
        rw [hd] at this
        exact this
      have HN : Hid (∃ k', k < k' ∧ Inv s.data.toList k' ∧ after a.data.toList = s.data.toList.drop k') := by
        have := inv_step s.data.toList k hI.out.1 (by rw [← hI.out.2]; exact hd)
        rw [← hI.out.2] at this
        exact this
      have HKL : Hid (k < s.data.toList.length) := by
        show k < _
        rcases Nat.lt_or_ge k s.data.toList.length with h' | h'
        · exact h'
        · rw [hI.out.2, List.drop_of_length_le h'] at hd; cases hd
      clear hd
      go_wp2_with fail
      refine (C.out _).mono ?_
      rintro e w' ⟨rfl, rfl⟩
      go_wp2_with fail
      refine (cut_any a _ hsz).mono ?_
      rintro e w2 ⟨⟨A, R, b, rfl, hR⟩, n, hn⟩
      obtain ⟨k', hk', hI', hk2⟩ := HN.out
      have HI2 : Hid (Inv s.data.toList k' ∧ R.data.toList = s.data.toList.drop k') := ⟨hI', hR.trans hk2⟩
      have HB2 : Hid (Below w.heap.size w w2) := by show Below _ _ _; rw [hn]; exact below_drewN hB.out n
      have hlt : R.size < a.size := by
        rw [← len_toList, ← len_toList, HI2.out.2, hI.out.2, List.length_drop, List.length_drop]
        have := HKL.out
        omega
      clear hR hn HN hI' hk2 hk' HKL
      go_wp2_with fail
      go_roundw
      case rel => exact ⟨R, k', rfl, by omega, HI2.out, HB2.out⟩
      case measure => simp [strLen]; omega

set_option maxHeartbeats 400000 in
theorem zzskip_any (s : ByteArray) (w : World) (hs : s.size ≤ 1048576) :
    Calls Try.prog 6 #[.string s] w fun e w' => SkipEnds s e ∧ Below w.heap.size w w' := by
  go_enter Try.func6, Try.ntmps6
  go_wp2_with fail
  refine (skip_any s _ hs).mono ?_
  rintro e w' ⟨⟨a, k, rfl, h1, h2, h3⟩, hB⟩
  have HQ : Hid (Inv s.data.toList k ∧ a.data.toList = s.data.toList.drop k ∧ dashed a.data.toList = false) := ⟨h1, h2, h3⟩
  have HB : Hid (Below w.heap.size w w') := hB
  clear h1 h2 h3 hB
  go_wp2_with fail
  go_ret
  exact ⟨⟨a, k, rfl, HQ.out⟩, HB.out⟩

end Go.Proofs.Qxb6604082a
