/-
  The walks of isAlpha, isDigit, isExtlang, isScript, isRegion, subtagAt.
-/
import Derived.Test.Qxb6603176aLeaf
import Derived.Lib.IndexBytes
namespace Go.Proofs.Qxb6603176a
open Go.RowKit
set_option linter.unusedVariables false

set_option maxHeartbeats 400000 in
theorem isAlpha_any (s : ByteArray) (w : World) (hs : s.size ≤ maxLen) :
    Calls Try.prog 38 #[.string s] w fun e w' => e = .returned (.bool (Pl.isAll s.data.toList true false)) ∧ w' = w := by
  go_enter Try.func38, Try.ntmps38
  go_wp2_with (go_at_call 44; refine (isAll_tf _ _ hs).mono ?_; rintro e w' ⟨rfl, rfl⟩)
  go_ret
  exact ⟨rfl, rfl⟩

set_option maxHeartbeats 400000 in
theorem isDigit_any (s : ByteArray) (w : World) (hs : s.size ≤ maxLen) :
    Calls Try.prog 45 #[.string s] w fun e w' => e = .returned (.bool (Pl.isAll s.data.toList false true)) ∧ w' = w := by
  go_enter Try.func45, Try.ntmps45
  go_wp2_with (go_at_call 44; refine (isAll_ft _ _ hs).mono ?_; rintro e w' ⟨rfl, rfl⟩)
  go_ret
  exact ⟨rfl, rfl⟩

theorem len_toList (s : ByteArray) : s.data.toList.length = s.size := (Lib.size_eq s).symm

set_option maxHeartbeats 400000 in
theorem isExt_any (s : ByteArray) (w : World) (hs : s.size ≤ maxLen) :
    Calls Try.prog 40 #[.string s] w fun e w' => e = .returned (.bool (Pl.isExt s.data.toList)) ∧ w' = w := by
  have H : Hid (Pl.isExt s.data.toList = (s.size == 3 && Pl.isAll s.data.toList true false)) := by unfold Pl.isExt; rw [len_toList]; rfl
  by_cases h : s.size = 3
  · have h1 : ((s.size : Int) == 3) = true := by simp; omega
    have h' : Hid (s.size = 3) := h
    clear h
    go_enter Try.func40, Try.ntmps40
    go_wp2_with (go_at_call 38; refine (isAlpha_any _ _ hs).mono ?_; rintro e w' ⟨rfl, rfl⟩)
    go_ret
    exact ⟨ret_bool (by rw [H.out, h'.out]; rfl), rfl⟩
  · have h1 : ((s.size : Int) == 3) = false := by simp; omega
    have h' : Hid (¬ s.size = 3) := h
    clear h
    go_enter Try.func40, Try.ntmps40
    go_wp2_with (go_at_call 38; refine (isAlpha_any _ _ hs).mono ?_; rintro e w' ⟨rfl, rfl⟩)
    go_ret
    exact ⟨ret_bool (by rw [H.out, beq_false_of_ne h'.out]; rfl), rfl⟩

set_option maxHeartbeats 400000 in
theorem isScr_any (s : ByteArray) (w : World) (hs : s.size ≤ maxLen) :
    Calls Try.prog 41 #[.string s] w fun e w' => e = .returned (.bool (Pl.isScr s.data.toList)) ∧ w' = w := by
  have H : Hid (Pl.isScr s.data.toList = (s.size == 4 && Pl.isAll s.data.toList true false)) := by unfold Pl.isScr; rw [len_toList]; rfl
  by_cases h : s.size = 4
  · have h1 : ((s.size : Int) == 4) = true := by simp; omega
    have h' : Hid (s.size = 4) := h
    clear h
    go_enter Try.func41, Try.ntmps41
    go_wp2_with (go_at_call 38; refine (isAlpha_any _ _ hs).mono ?_; rintro e w' ⟨rfl, rfl⟩)
    go_ret
    exact ⟨ret_bool (by rw [H.out, h'.out]; rfl), rfl⟩
  · have h1 : ((s.size : Int) == 4) = false := by simp; omega
    have h' : Hid (¬ s.size = 4) := h
    clear h
    go_enter Try.func41, Try.ntmps41
    go_wp2_with (go_at_call 38; refine (isAlpha_any _ _ hs).mono ?_; rintro e w' ⟨rfl, rfl⟩)
    go_ret
    exact ⟨ret_bool (by rw [H.out, beq_false_of_ne h'.out]; rfl), rfl⟩

set_option maxHeartbeats 400000 in
theorem isReg_any (s : ByteArray) (w : World) (hs : s.size ≤ maxLen) :
    Calls Try.prog 42 #[.string s] w fun e w' => e = .returned (.bool (Pl.isReg s.data.toList)) ∧ w' = w := by
  have H : Hid (Pl.isReg s.data.toList = (s.size == 2 && Pl.isAll s.data.toList true false || s.size == 3 && Pl.isAll s.data.toList false true)) := by unfold Pl.isReg; rw [len_toList]; rfl
  by_cases h : s.size = 2
  · have h1 : ((s.size : Int) == 2) = true := by simp; omega
    have h2 : ((s.size : Int) == 3) = false := by simp; omega
    have h' : Hid (s.size = 2) := h
    clear h
    obtain ⟨b, hb⟩ : ∃ b, Pl.isAll s.data.toList true false = b := ⟨_, rfl⟩
    have hal := isAlpha_any s w hs
    rw [hb] at hal
    have HB : Hid (Pl.isAll s.data.toList true false = b) := hb
    have HA := hal
    clear hb hal
    cases b
    all_goals
      go_enter Try.func42, Try.ntmps42
      go_wp2_with (go_at_call 38; refine HA.mono ?_; rintro e w' ⟨rfl, rfl⟩)
      go_ret
      exact ⟨ret_bool (by rw [H.out, h'.out, HB.out]; rfl), rfl⟩
  · have h1 : ((s.size : Int) == 2) = false := by simp; omega
    by_cases hh : s.size = 3
    · have h2 : ((s.size : Int) == 3) = true := by simp; omega
      have h' : Hid (s.size = 3) := hh
      clear h hh
      go_enter Try.func42, Try.ntmps42
      go_wp2_with (go_at_call 45; refine (isDigit_any _ _ hs).mono ?_; rintro e w' ⟨rfl, rfl⟩)
      go_ret
      exact ⟨ret_bool (by rw [H.out, h'.out]; rfl), rfl⟩
    · have h2 : ((s.size : Int) == 3) = false := by simp; omega
      have h' : Hid (¬ s.size = 2 ∧ ¬ s.size = 3) := ⟨h, hh⟩
      clear h hh
      go_enter Try.func42, Try.ntmps42
      go_wp2
      go_ret
      exact ⟨ret_bool (by rw [H.out, beq_false_of_ne h'.out.1, beq_false_of_ne h'.out.2]; rfl), rfl⟩

set_option maxHeartbeats 400000 in
theorem subtag_any (s : ByteArray) (i : Nat) (w : World) (hs : s.size ≤ maxLen) (hi : i ≤ s.size) (hm : i < 1000000000) :
    Calls Try.prog 39 #[.string s, .int .i64 i] w fun e w' => (∃ r : ByteArray, e = .returned (.string r) ∧ r.data.toList = Pl.sub s.data.toList i) ∧ w' = w := by
  unfold maxLen at hs
  by_cases h : i < s.size
  · obtain ⟨r, hr⟩ : ∃ r, r = s.extract (i + 1) s.size := ⟨_, rfl⟩
    have hsub : Pl.sub s.data.toList i = Pl.word r.data.toList := by
      unfold Pl.sub; rw [len_toList, if_neg (by omega), hr, Lib.extract_to_end]
    have hrs : r.size < s.size := by
      rw [← len_toList, hr, Lib.extract_to_end, List.length_drop, len_toList]; omega
    have HR : Hid (r = s.extract (i + 1) s.size) := hr
    have HSUB : Hid (Pl.sub s.data.toList i = Pl.word r.data.toList) := hsub
    clear hr hsub
    rcases Pl.word_idx r.data.toList with ⟨h1, h2⟩ | ⟨h1, h2⟩
    · have hix := indexByte_any r 45
      rw [show ((45 : Int).toNat.toUInt8) = 45 from rfl, h1] at hix
      have H2 : Hid (Pl.word r.data.toList = r.data.toList) := h2
      clear h1 h2
      go_enter Try.func39, Try.ntmps39
      go_wp2_with fail
      rw [← HR.out]
      refine (hix _).mono ?_
      rintro e w' ⟨rfl, rfl⟩
      go_wp2
      go_ret
      exact ⟨⟨r, rfl, by rw [HSUB.out, H2.out]⟩, rfl⟩
    · have hix := indexByte_any r 45
      rw [show ((45 : Int).toNat.toUInt8) = 45 from rfl, h1] at hix
      have H2 : Hid ((Pl.word r.data.toList) = r.data.toList.take (Pl.word r.data.toList).length) := Pl.word_eq_take _
      rw [len_toList] at h2
      generalize hn : (Pl.word r.data.toList).length = n at *
      clear h1 hn
      go_enter Try.func39, Try.ntmps39
      go_wp2_with fail
      rw [← HR.out]
      refine (hix _).mono ?_
      rintro e w' ⟨rfl, rfl⟩
      go_wp2
      go_ret
      exact ⟨⟨r.extract 0 n, rfl, by rw [HSUB.out, H2.out, Lib.extract_data]; simp⟩, rfl⟩
  · go_enter Try.func39, Try.ntmps39
    go_wp2
    go_ret
    exact ⟨⟨_, rfl, by unfold Pl.sub; rw [len_toList, if_pos (by omega)]⟩, rfl⟩

end Go.Proofs.Qxb6603176a
