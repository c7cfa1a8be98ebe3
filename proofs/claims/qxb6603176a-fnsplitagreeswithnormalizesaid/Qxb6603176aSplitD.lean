/-
  split, whole; ZZSplit.
-/
import Derived.Test.Qxb6603176aSplitC
namespace Go.Proofs.Qxb6603176a
open Go.RowKit
set_option linter.unusedVariables false

theorem sub_len (t : List UInt8) (i : Nat) (h : 0 < (Pl.sub t i).length) : i + 1 + (Pl.sub t i).length ≤ t.length := by
  unfold Pl.sub at h ⊢
  split at h
  · simp at h
  · rename_i h1
    rw [if_neg h1]
    have := Pl.word_le (t.drop (i + 1))
    rw [List.length_drop] at this
    omega
theorem sub_le (t : List UInt8) (i : Nat) : (Pl.sub t i).length ≤ t.length := by
  rcases Nat.eq_zero_or_pos (Pl.sub t i).length with h | h
  · omega
  · have := sub_len t i h; omega
theorem ext3 {l : List UInt8} (h : Pl.isExt l = true) : l.length = 3 := by unfold Pl.isExt at h; simp at h; exact h.1
theorem scr4 {l : List UInt8} (h : Pl.isScr l = true) : l.length = 4 := by unfold Pl.isScr at h; simp at h; exact h.1
theorem endA_le (t : List UInt8) : Pl.endA t ≤ t.length := Pl.word_le t
theorem endB_le (t : List UInt8) : Pl.endB t ≤ t.length := by
  unfold Pl.endB
  split
  · rename_i h
    simp only [Bool.and_eq_true] at h
    have h3 := ext3 h.2
    have := sub_len t _ (by rw [h3]; omega)
    omega
  · exact endA_le t
theorem endC_le (t : List UInt8) : Pl.endC t ≤ t.length := by
  unfold Pl.endC
  split
  · rename_i h
    have h3 := scr4 h
    have := sub_len t _ (by rw [h3]; omega)
    omega
  · exact endB_le t

theorem ofL (l : List UInt8) : (⟨l.toArray⟩ : ByteArray).data.toList = l := rfl
theorem ofL_size (l : List UInt8) : (⟨l.toArray⟩ : ByteArray).size = l.length := by rw [← len_toList]

/-- What a call of 'split' at s gives. -/
def SplitEnds (s : ByteArray) (e : Ending) : Prop :=
  ∃ L S R : ByteArray, e = .returned (.tuple #[.agg #[.string L, .string S, .string R, .int .i64 ((Pl.parts s.data.toList).le : Int), .int .i64 ((Pl.parts s.data.toList).se : Int), .int .i64 ((Pl.parts s.data.toList).re : Int)], .bool (Pl.parts s.data.toList).ok]) ∧
    L.data.toList = (Pl.parts s.data.toList).lang ∧ S.data.toList = (Pl.parts s.data.toList).script ∧ R.data.toList = (Pl.parts s.data.toList).region

theorem split_any (s : ByteArray) (w : World) (hs : s.size ≤ 1048576) :
    Calls Try.prog 33 #[.string s] w fun e w' => SplitEnds s e ∧ Below w.heap.size w w' := by
  have hx : ∃ x : Int, ((x = (Pl.endA s.data.toList : Int) ∧ Pl.endA s.data.toList ≤ s.size) ∨ (x = -1 ∧ s.size = Pl.endA s.data.toList)) ∧
      Hid (∀ W, Calls Try.prog 37 #[.string s, .int .u8 45] W fun e w' => e = .returned (.int .i64 x) ∧ w' = W) := by
    refine ⟨Lib.indexByte s.data.toList 45, ?_, fun W => indexByte_any s 45 W⟩
    rcases Pl.word_idx s.data.toList with ⟨h1, h2⟩ | ⟨h1, h2⟩
    · exact .inr ⟨h1, by unfold Pl.endA; rw [h2, len_toList]⟩
    · rw [len_toList] at h2
      exact .inl ⟨h1, by unfold Pl.endA; omega⟩
  obtain ⟨x, hx, HI⟩ := hx
  have hAs : Pl.endA s.data.toList ≤ s.size := by rw [← len_toList]; exact endA_le _
  have hBs : Pl.endB s.data.toList ≤ s.size := by rw [← len_toList]; exact endB_le _
  have hCs : Pl.endC s.data.toList ≤ s.size := by rw [← len_toList]; exact endC_le _
  have hw : (s.extract 0 (Pl.endA s.data.toList)).data.toList = Pl.word s.data.toList := by
    rw [Lib.extract_data]; unfold Pl.endA
    simp only [List.drop_zero, Nat.sub_zero]
    exact (Pl.word_eq_take _).symm
  have hws : (s.extract 0 (Pl.endA s.data.toList)).size ≤ maxLen := by
    rw [← len_toList, hw]; have := endA_le s.data.toList; unfold Pl.endA at this; rw [len_toList] at this; unfold maxLen; omega
  by_cases hok : Pl.okA s.data.toList = true
  · have hparts : Pl.parts s.data.toList = { lang := s.data.toList.take (Pl.endB s.data.toList), script := if Pl.isScr (Pl.sub s.data.toList (Pl.endB s.data.toList)) then Pl.sub s.data.toList (Pl.endB s.data.toList) else [], region := if Pl.isReg (Pl.sub s.data.toList (Pl.endC s.data.toList)) then Pl.sub s.data.toList (Pl.endC s.data.toList) else [], le := Pl.endB s.data.toList, se := Pl.endC s.data.toList, re := Pl.endD s.data.toList, ok := true } := by
      unfold Pl.parts; rw [if_pos hok]
    have hok' := hok
    unfold Pl.okA at hok'
    simp only [Bool.and_eq_true, decide_eq_true_eq] at hok'
    obtain ⟨⟨h2, h8⟩, hal⟩ := hok'
    have HA : Hid (∀ W, Calls Try.prog 38 #[.string (s.extract 0 (Pl.endA s.data.toList))] W fun e w' => e = .returned (.bool true) ∧ w' = W) := by
      intro W
      have := isAlpha_any (s.extract 0 (Pl.endA s.data.toList)) W hws
      rw [hw, hal] at this
      exact this
    obtain ⟨S0, hS0⟩ : ∃ S : ByteArray, S.data.toList = Pl.sub s.data.toList (Pl.endA s.data.toList) := ⟨⟨_⟩, ofL _⟩
    obtain ⟨S1, hS1⟩ : ∃ S : ByteArray, S.data.toList = Pl.sub s.data.toList (Pl.endB s.data.toList) := ⟨⟨_⟩, ofL _⟩
    obtain ⟨S2, hS2⟩ : ∃ S : ByteArray, S.data.toList = Pl.sub s.data.toList (Pl.endC s.data.toList) := ⟨⟨_⟩, ofL _⟩
    have z0 : S0.size ≤ s.size := by rw [← len_toList, hS0, ← len_toList s]; exact sub_le _ _
    have z1 : S1.size ≤ s.size := by rw [← len_toList, hS1, ← len_toList s]; exact sub_le _ _
    have z2 : S2.size ≤ s.size := by rw [← len_toList, hS2, ← len_toList s]; exact sub_le _ _
    have HX : ∀ b, Pl.isExt (Pl.sub s.data.toList (Pl.endA s.data.toList)) = b → Hid (∀ W, Calls Try.prog 40 #[.string S0] W fun e w' => e = .returned (.bool b) ∧ w' = W) := by
      intro b hb W
      have := isExt_any S0 W (by unfold maxLen; omega)
      rw [hS0, hb] at this
      exact this
    have HS : Hid (∀ W, Calls Try.prog 41 #[.string S1] W fun e w' => e = .returned (.bool (Pl.isScr (Pl.sub s.data.toList (Pl.endB s.data.toList)))) ∧ w' = W) := by
      intro W
      have := isScr_any S1 W (by unfold maxLen; omega)
      rw [hS1] at this
      exact this
    have HR : Hid (∀ W, Calls Try.prog 42 #[.string S2] W fun e w' => e = .returned (.bool (Pl.isReg (Pl.sub s.data.toList (Pl.endC s.data.toList)))) ∧ w' = W) := by
      intro W
      have := isReg_any S2 W (by unfold maxLen; omega)
      rw [hS2] at this
      exact this
    have Hz1 : Hid (Pl.isScr (Pl.sub s.data.toList (Pl.endB s.data.toList)) = true → S1.size = 4) := fun h => by
      rw [← len_toList, hS1]; exact scr4 h
    have HC : Hid (Pl.endC s.data.toList = cond (Pl.isScr (Pl.sub s.data.toList (Pl.endB s.data.toList))) (Pl.endB s.data.toList + 5) (Pl.endB s.data.toList)) := by
      show Pl.endC _ = _
      unfold Pl.endC; cases Pl.isScr (Pl.sub s.data.toList (Pl.endB s.data.toList)) <;> rfl
    have HD : Hid (Pl.endD s.data.toList = cond (Pl.isReg (Pl.sub s.data.toList (Pl.endC s.data.toList))) (Pl.endC s.data.toList + 1 + S2.size) (Pl.endC s.data.toList)) := by
      show Pl.endD _ = _
      rw [← len_toList S2, hS2]
      unfold Pl.endD; cases Pl.isReg (Pl.sub s.data.toList (Pl.endC s.data.toList)) <;> rfl
    -- what the good end says
    have fin : ∀ (e : Ending) (w' : World), (e = .returned (.tuple #[.agg #[.string (s.extract 0 (Pl.endB s.data.toList)), .string (cond (Pl.isScr (Pl.sub s.data.toList (Pl.endB s.data.toList))) S1 ⟨#[]⟩), .string (cond (Pl.isReg (Pl.sub s.data.toList (Pl.endC s.data.toList))) S2 ⟨#[]⟩), .int .i64 ((Pl.endB s.data.toList : Nat) : Int), .int .i64 (Pl.endC s.data.toList : Int), .int .i64 (Pl.endD s.data.toList : Int)], .bool true]) ∧ Below w.heap.size w w') → SplitEnds s e ∧ Below w.heap.size w w' := by
      rintro e w' ⟨rfl, hb⟩
      refine ⟨?_, hb⟩
      unfold SplitEnds
      rw [hparts]
      refine ⟨_, _, _, rfl, ?_, ?_, ?_⟩
      · rw [Lib.extract_data]; simp
      · show (cond _ S1 _).data.toList = _
        cases Pl.isScr (Pl.sub s.data.toList (Pl.endB s.data.toList))
        · rfl
        · exact hS1
      · show (cond _ S2 _).data.toList = _
        cases Pl.isReg (Pl.sub s.data.toList (Pl.endC s.data.toList))
        · rfl
        · exact hS2
    clear hparts
    by_cases h3 : Pl.endA s.data.toList ≤ 3
    · cases hext : Pl.isExt (Pl.sub s.data.toList (Pl.endA s.data.toList))
      · have eB : Pl.endB s.data.toList = Pl.endA s.data.toList := by unfold Pl.endB; rw [hext]; simp
        generalize Pl.endB s.data.toList = B at *; subst eB
        rcases hx with ⟨rfl, hEs⟩ | ⟨rfl, hEs⟩
        · exact (split_at_no s w hs _ _ _ S1 S2 _ _ h2 h8 hEs hBs hCs z2 HI HA h3 S0 hS0 (HX _ hext) hS1 hS2 HS HR Hz1 HC HD).mono fin
        · exact (split_none_no s w hs _ _ _ S1 S2 _ _ h2 h8 hEs hBs hCs z2 HI HA h3 S0 hS0 (HX _ hext) hS1 hS2 HS HR Hz1 HC HD).mono fin
      · have eB : Pl.endB s.data.toList = Pl.endA s.data.toList + 4 := by unfold Pl.endB; rw [hext]; simp [h3]
        have l0 : S0.size = 3 := by rw [← len_toList, hS0]; exact ext3 hext
        generalize Pl.endB s.data.toList = B at *; subst eB
        rcases hx with ⟨rfl, hEs⟩ | ⟨rfl, hEs⟩
        · exact (split_at_ext s w hs _ _ _ S1 S2 _ _ h2 h8 hEs hBs hCs z2 HI HA h3 S0 hS0 l0 (HX _ hext) hS1 hS2 HS HR Hz1 HC HD).mono fin
        · exfalso; omega
    · have eB : Pl.endB s.data.toList = Pl.endA s.data.toList := by unfold Pl.endB; rw [decide_eq_false h3]; simp
      generalize Pl.endB s.data.toList = B at *; subst eB
      rcases hx with ⟨rfl, hEs⟩ | ⟨rfl, hEs⟩
      · exact (split_at_big s w hs _ _ _ S1 S2 _ _ h2 h8 hEs hBs hCs z2 HI HA (by omega) hS1 hS2 HS HR Hz1 HC HD).mono fin
      · exact (split_none_big s w hs _ _ _ S1 S2 _ _ h2 h8 hEs hBs hCs z2 HI HA (by omega) hS1 hS2 HS HR Hz1 HC HD).mono fin
  · have hok' : Pl.okA s.data.toList = false := by simpa using hok
    refine (split_bad s w hs (Pl.endA s.data.toList) x hx HI ?_).mono ?_
    · unfold Pl.okA at hok'
      by_cases h2 : Pl.endA s.data.toList < 2
      · exact .inl h2
      · by_cases h8 : 8 < Pl.endA s.data.toList
        · exact .inr (.inl h8)
        · refine .inr (.inr ⟨by omega, by omega, fun W => ?_⟩)
          have := isAlpha_any (s.extract 0 (Pl.endA s.data.toList)) W hws
          rw [decide_eq_true (by omega : 2 ≤ Pl.endA s.data.toList), decide_eq_true (by omega : Pl.endA s.data.toList ≤ 8)] at hok'
          simp only [Bool.true_and] at hok'
          rw [hw, hok'] at this
          exact this
    · rintro e w' ⟨rfl, hb⟩
      refine ⟨?_, hb⟩
      unfold SplitEnds Pl.parts
      rw [hok']
      exact ⟨_, _, _, rfl, rfl, rfl, rfl⟩

end Go.Proofs.Qxb6603176a
