/-
  The walk of FnSplitAgreesWithNormalize.
-/
import Derived.Test.Qxb6603176aNorm
import Derived.Test.Qxb6603176aZZ
import Derived.Test.Qxb6603176aTitle
import Derived.Test.Qxb6603176aPlainC
namespace Go.Proofs.Qxb6603176a
open Go.RowKit
set_option linter.unusedVariables false

theorem zz_fixed (s : ByteArray) (hs : s.size ≤ 1048576) (L S R : ByteArray) (a b c : Nat) (ok : Bool) (hL : L.data.toList = (Pl.parts s.data.toList).lang) (hS : S.data.toList = (Pl.parts s.data.toList).script) (hR : R.data.toList = (Pl.parts s.data.toList).region)
    (ha : (Pl.parts s.data.toList).le = a) (hb : (Pl.parts s.data.toList).se = b) (hc : (Pl.parts s.data.toList).re = c) (hok : (Pl.parts s.data.toList).ok = ok) (W : World) :
    Calls Try.prog 18 #[.string s] W fun e w' => e = .returned (.tuple #[.string L, .string S, .string R, .int .i64 (a : Int), .int .i64 (b : Int), .int .i64 (c : Int), .bool ok]) ∧ Below W.heap.size W w' := by
  refine (zzsplit_any s W hs).mono ?_
  rintro e w' ⟨⟨L', S', R', rfl, h1, h2, h3⟩, hbel⟩
  rw [ba_ext (h1.trans hL.symm), ba_ext (h2.trans hS.symm), ba_ext (h3.trans hR.symm), ha, hb, hc, hok]
  exact ⟨rfl, hbel⟩

theorem norm_fixed (s M : ByteArray) (hs : s.size ≤ 1048576) (hM : M.data.toList = Pl.norm s.data.toList) (W : World) :
    Calls Try.prog 23 #[.string s] W fun e w' => e = .returned (.string M) ∧ Below W.heap.size W w' := by
  refine (norm_any s W hs).mono ?_
  rintro e w' ⟨⟨r, rfl, hr⟩, hb⟩
  exact ⟨by rw [ba_ext (hr.trans hM.symm)], hb⟩

theorem parts_size (t : List UInt8) : (Pl.parts t).lang.length ≤ t.length ∧ (Pl.parts t).script.length ≤ t.length ∧ (Pl.parts t).region.length ≤ t.length := by
  unfold Pl.parts
  split
  · refine ⟨by simp; omega, ?_, ?_⟩
    · show (if _ then _ else _ : List UInt8).length ≤ _
      split
      · exact sub_le _ _
      · simp
    · show (if _ then _ else _ : List UInt8).length ≤ _
      split
      · exact sub_le _ _
      · simp
  · simp

/-- All the callees, at this input. -/
theorem callees (s : ByteArray) (hs : s.size ≤ 1048576) : ∃ (D M L1 S1 R1 L2 S2 R2 : ByteArray) (a b c : Nat) (ok : Bool),
    (∀ W, Calls Try.prog 22 #[.string s] W fun e w' => e = .returned (.string D) ∧ Below W.heap.size W w') ∧
    (∀ W, Calls Try.prog 18 #[.string D] W fun e w' => e = .returned (.tuple #[.string L1, .string S1, .string R1, .int .i64 (a : Int), .int .i64 (b : Int), .int .i64 (c : Int), .bool ok]) ∧ Below W.heap.size W w') ∧
    (∀ W, Calls Try.prog 23 #[.string s] W fun e w' => e = .returned (.string M) ∧ Below W.heap.size W w') ∧
    (∀ W, Calls Try.prog 18 #[.string M] W fun e w' => e = .returned (.tuple #[.string L2, .string S2, .string R2, .int .i64 (a : Int), .int .i64 (b : Int), .int .i64 (c : Int), .bool ok]) ∧ Below W.heap.size W w') ∧
    (∀ W, Calls Try.prog 24 #[.string L1] W fun e w' => e = .returned (.string L2) ∧ Below W.heap.size W w') ∧
    (∀ W, Calls Try.prog 25 #[.string S1] W fun e w' => e = .returned (.string S2) ∧ Below W.heap.size W w') ∧
    (∀ W, Calls Try.prog 26 #[.string R1] W fun e w' => e = .returned (.string R2) ∧ Below W.heap.size W w') := by
  obtain ⟨law1, law2, law3, law4, law5, law6, law7⟩ := Pl.law s.data.toList
  have hD : (⟨(s.data.toList.map Pl.dash).toArray⟩ : ByteArray).size ≤ 1048576 := by rw [ofL_size, List.length_map, len_toList]; exact hs
  have hM : (⟨(Pl.norm s.data.toList).toArray⟩ : ByteArray).size ≤ 1048576 := by rw [ofL_size, Pl.norm_length, len_toList]; exact hs
  obtain ⟨z1, z2, z3⟩ := parts_size (s.data.toList.map Pl.dash)
  rw [List.length_map, len_toList] at z1 z2 z3
  refine ⟨⟨(s.data.toList.map Pl.dash).toArray⟩, ⟨(Pl.norm s.data.toList).toArray⟩, ⟨(Pl.parts (s.data.toList.map Pl.dash)).lang.toArray⟩, ⟨(Pl.parts (s.data.toList.map Pl.dash)).script.toArray⟩, ⟨(Pl.parts (s.data.toList.map Pl.dash)).region.toArray⟩,
    ⟨(Pl.parts (Pl.norm s.data.toList)).lang.toArray⟩, ⟨(Pl.parts (Pl.norm s.data.toList)).script.toArray⟩, ⟨(Pl.parts (Pl.norm s.data.toList)).region.toArray⟩,
    (Pl.parts (s.data.toList.map Pl.dash)).le, (Pl.parts (s.data.toList.map Pl.dash)).se, (Pl.parts (s.data.toList.map Pl.dash)).re, (Pl.parts (s.data.toList.map Pl.dash)).ok, ?_, ?_, ?_, ?_, ?_, ?_, ?_⟩
  · exact fun W => dashed_any s W hs
  · exact zz_fixed _ hD _ _ _ _ _ _ _ rfl rfl rfl rfl rfl rfl rfl
  · exact norm_fixed s _ hs rfl
  · exact zz_fixed _ hM _ _ _ _ _ _ _ rfl rfl rfl law2.symm law3.symm law4.symm law1.symm
  · intro W
    have := low_any ⟨(Pl.parts (s.data.toList.map Pl.dash)).lang.toArray⟩ W (by rw [ofL_size]; omega)
    rw [ofL, ← law5] at this
    exact this
  · intro W
    have := title_any ⟨(Pl.parts (s.data.toList.map Pl.dash)).script.toArray⟩ W (by rw [ofL_size]; omega)
    rw [ofL, ← law6] at this
    exact this
  · intro W
    have := up_any ⟨(Pl.parts (s.data.toList.map Pl.dash)).region.toArray⟩ W (by rw [ofL_size]; omega)
    rw [ofL, ← law7] at this
    exact this

set_option maxHeartbeats 1000000 in
theorem top_walk (s : ByteArray) (w0 : s.size ≤ maxLen) (w : World) :
    Calls Try.prog 7 #[.string s] w fun e w' => e = .returned (.bool true) ∧ Below w.heap.size w w' := by
  by_cases hs : s.size ≤ 1048576
  · obtain ⟨D, M, L1, S1, R1, L2, S2, R2, a, b, c, ok, c1, c2, c3, c4, c5, c6, c7⟩ := callees s hs
    have hz := fun W => zz_any s W w0
    rw [decide_eq_true hs] at hz
    have Z : Hid (∀ W, Calls Try.prog 21 #[.string s] W fun e w' => e = .returned (.bool true) ∧ w' = W) := hz
    have C1 := (show Hid _ from c1); have C2 := (show Hid _ from c2); have C3 := (show Hid _ from c3); have C4 := (show Hid _ from c4); have C5 := (show Hid _ from c5); have C6 := (show Hid _ from c6); have C7 := (show Hid _ from c7)
    clear c1 c2 c3 c4 c5 c6 c7 hz
    go_enter Try.func7, Try.ntmps7
    go_wp2_with fail
    refine (Z.out _).mono ?_
    rintro e w' ⟨rfl, rfl⟩
    go_wp2_with fail
    refine (C1.out _).mono ?_
    rintro e w1 ⟨rfl, b1⟩
    have B1 : Hid (Below w'.heap.size w' w1) := b1
    clear b1
    go_wp2_with fail
    refine (C2.out _).mono ?_
    rintro e w2 ⟨rfl, b2⟩
    have B2 : Hid (Below w'.heap.size w' w2) := two_below B1.out b2
    clear b2
    go_wp2_with fail
    refine (C3.out _).mono ?_
    rintro e w3 ⟨rfl, b3⟩
    have B3 : Hid (Below w'.heap.size w' w3) := two_below B2.out b3
    clear b3
    go_wp2_with fail
    refine (C4.out _).mono ?_
    rintro e w4 ⟨rfl, b4⟩
    have B4 : Hid (Below w'.heap.size w' w4) := two_below B3.out b4
    clear b4
    go_wp2_with fail
    refine (C5.out _).mono ?_
    rintro e w5 ⟨rfl, b5⟩
    have B5 : Hid (Below w'.heap.size w' w5) := two_below B4.out b5
    clear b5
    go_wp2_with fail
    refine (C6.out _).mono ?_
    rintro e w6 ⟨rfl, b6⟩
    have B6 : Hid (Below w'.heap.size w' w6) := two_below B5.out b6
    clear b6
    go_wp2_with fail
    refine (C7.out _).mono ?_
    rintro e w7 ⟨rfl, b7⟩
    have B7 : Hid (Below w'.heap.size w' w7) := two_below B6.out b7
    clear b7
    go_wp2_with fail
    go_ret
    exact ⟨rfl, B7.out⟩
  · have hz := fun W => zz_any s W w0
    rw [decide_eq_false hs] at hz
    have Z : Hid (∀ W, Calls Try.prog 21 #[.string s] W fun e w' => e = .returned (.bool false) ∧ w' = W) := hz
    clear hz
    go_enter Try.func7, Try.ntmps7
    go_wp2_with fail
    refine (Z.out _).mono ?_
    rintro e w' ⟨rfl, rfl⟩
    go_wp2_with fail
    go_ret
    exact ⟨rfl, Below.refl _ _⟩

end Go.Proofs.Qxb6603176a
