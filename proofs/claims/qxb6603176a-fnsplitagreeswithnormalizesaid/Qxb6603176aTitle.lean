/-
  The walk of titleASCII: a region that draws the order of its two calls.
-/
import Derived.Test.Qxb6603176aMaps
import Derived.Deep.RegionWith
import Derived.RegionTactic
namespace Go.Proofs.Qxb6603176a
open Go.RowKit
set_option linter.unusedVariables false

theorem two_below {w w1 w2 : World} (h1 : Below w.heap.size w w1) (h2 : Below w1.heap.size w1 w2) : Below w.heap.size w w2 := h1.trans (h2.mono h1.size)
theorem drew_below {w w1 : World} (h1 : Below w.drew.heap.size w.drew w1) : Below w.heap.size w w1 := ⟨h1.os, h1.tape, h1.output, h1.size, h1.block⟩

theorem title_eq (s : ByteArray) (h1 : 1 ≤ s.size) : (s.extract 0 1).data.toList.map Pl.up ++ (s.extract 1 s.size).data.toList.map Pl.low = Pl.title s.data.toList := by
  rw [Lib.extract_to_end, Lib.extract_data]
  have := len_toList s
  match h : s.data.toList with
  | [] => rw [h] at this; simp at this; omega
  | c :: l => simp [Pl.title]
theorem cat_eq (a b : List UInt8) : (⟨a.toArray⟩ ++ ⟨b.toArray⟩ : ByteArray) = ⟨(a ++ b).toArray⟩ := by
  apply ByteArray.ext; simp [ByteArray.data_append]
theorem mk_toList (l : List UInt8) : (⟨l.toArray⟩ : ByteArray).data.toList = l := rfl

set_option maxHeartbeats 400000 in
theorem title_any (s : ByteArray) (w : World) (hs : s.size ≤ 1048576) :
    Calls Try.prog 25 #[.string s] w fun e w' => e = .returned (.string ⟨(Pl.title s.data.toList).toArray⟩) ∧ Below w.heap.size w w' := by
  by_cases h : s.size = 0
  · obtain rfl : s = ⟨#[]⟩ := by
      have := len_toList s
      apply ByteArray.ext
      apply Array.toList_inj.1
      rw [List.eq_nil_of_length_eq_zero (this.trans h)]
    go_enter Try.func25, Try.ntmps25
    go_wp2
    go_ret
    exact ⟨rfl, Below.refl _ _⟩
  · have he : (s.toList.isEmpty) = false := by
      rw [List.isEmpty_eq_false_iff]
      intro e
      have := congrArg List.length e
      rw [Lib.toList_data, len_toList] at this
      exact h (by simpa using this)
    have h1 : 1 ≤ s.size := by omega
    clear h
    have e1 : (s.extract 0 1).size ≤ 1 := by rw [← len_toList, Lib.extract_data]; simp; omega
    have e2 : (s.extract 1 s.size).size ≤ 1048576 := by rw [← len_toList, Lib.extract_to_end, List.length_drop, len_toList]; omega
    obtain ⟨U, hU⟩ : ∃ U : ByteArray, U = ⟨((s.extract 0 1).data.toList.map Pl.up).toArray⟩ := ⟨_, rfl⟩
    obtain ⟨L, hL⟩ : ∃ L : ByteArray, L = ⟨((s.extract 1 s.size).data.toList.map Pl.low).toArray⟩ := ⟨_, rfl⟩
    have HU : Hid (∀ W, Calls Try.prog 26 #[.string (s.extract 0 1)] W fun e w' => e = .returned (.string U) ∧ Below W.heap.size W w') := by
      intro W; rw [hU]; exact up_any _ W (by omega)
    have HL : Hid (∀ W, Calls Try.prog 24 #[.string (s.extract 1 s.size)] W fun e w' => e = .returned (.string L) ∧ Below W.heap.size W w') := by
      intro W; rw [hL]; exact low_any _ W e2
    have hsum : U.size + L.size ≤ 9223372036854775807 := by
      rw [← len_toList, ← len_toList, hU, hL, mk_toList, mk_toList, List.length_map, List.length_map, len_toList, len_toList]; omega
    have HC : Hid (U ++ L = ⟨(Pl.title s.data.toList).toArray⟩) := by
      show U ++ L = _
      rw [hU, hL, cat_eq, title_eq s h1]
    clear hU hL e1 e2
    have hs1 : ¬ (9223372036854775807 < U.size + L.size) := by omega
    go_enter Try.func25, Try.ntmps25
    go_wp2
    go_region_with (first | (go_at_call 26; refine (HU.out _).mono ?_; rintro e w' ⟨rfl, hb⟩) | (go_at_call 24; refine (HL.out _).mono ?_; rintro e w' ⟨rfl, hb⟩))
    all_goals
      go_wp2
      go_ret
    all_goals exact ⟨ret_str HC.out, two_below (drew_below (by assumption)) hb⟩

end Go.Proofs.Qxb6603176a
