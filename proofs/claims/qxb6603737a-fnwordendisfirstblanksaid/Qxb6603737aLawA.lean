/-
  The walk of FnWordEndIsFirstBlank.
-/
import Derived.Test.Qxb6603737aWalk
namespace Go.Proofs.Qxb6603737a
open Go.RowKit
set_option linter.unusedVariables false

theorem drop_at (s : ByteArray) (m : Nat) (h : m < s.size) : s.data.toList.drop m = s[m] :: s.data.toList.drop (m + 1) := by
  rw [List.drop_eq_getElem_cons (by rw [len_toList]; exact h)]; rfl

set_option maxHeartbeats 400000 in
theorem lawA (s : ByteArray) (w0 : s.size ≤ maxLen) (w : World) :
    Calls Try.prog 3 #[.string s] w fun e w' => e = .returned (.bool true) ∧ w' = w := by
  by_cases hs : s.size ≤ 1048576
  · have Z : Hid (∀ W, Calls Try.prog 7 #[.string s] W fun e w' => e = .returned (.bool true) ∧ w' = W) := by
      intro W
      have := zz3_any s W w0
      rw [decide_eq_true hs] at this
      exact this
    have C : Hid (∀ W, Calls Try.prog 9 #[.string s] W fun e w' => e = .returned (.int .i64 (Pl.we s.data.toList : Int)) ∧ w' = W) := fun W => zzwe_any s W w0
    clear w0
    go_enter Try.func3, Try.ntmps3
    go_wp2_with fail
    refine (Z.out _).mono ?_
    rintro e w' ⟨rfl, rfl⟩
    go_wp2_with fail
    go_loop [3, 4] (fun v i => ∃ k q : Nat, k ≤ s.size ∧ ((k = 0 ∧ i = .int .i64 (-1)) ∨ ∃ m : Nat, k = m + 1 ∧ i = .int .i64 m) ∧ v = .int .i64 q ∧ Hid (q = k + Pl.we (s.data.toList.drop k))) (fun _ i => (intOf i + 1).toNat)
    case atStart =>
      refine ⟨s.size, s.size, Nat.le_refl _, ?_, rfl, ?_⟩
      · by_cases h0 : s.size = 0
        · exact .inl ⟨h0, by rw [h0]; rfl⟩
        · exact .inr ⟨s.size - 1, by omega, by congr 1; omega⟩
      · show s.size = _
        rw [List.drop_of_length_le (by rw [len_toList]; exact Nat.le_refl _), Pl.we_nil]; rfl
    case round =>
      obtain ⟨k, q, hk, hki, rfl, hq⟩ := hrel
      rcases hki with ⟨rfl, rfl⟩ | ⟨m, rfl, rfl⟩
      · have hq' : q = Pl.we s.data.toList := by have := hq.out; simpa using this
        subst hq'
        clear hq
        go_wp2_with fail
        refine (C.out _).mono ?_
        rintro e w' ⟨rfl, rfl⟩
        go_wp2_with fail
        go_ret
        exact ⟨ret_bool (by simp), rfl⟩
      · have hm : m < s.size := by omega
        have T : Hid (∀ W, Calls Try.prog 8 #[.int .u8 (s[m].toNat : Int)] W fun e w' => e = .returned (.bool (Pl.blank s[m])) ∧ w' = W) := fun W => blank_any s[m] W
        have HW : Hid (Pl.we (s.data.toList.drop m) = if Pl.blank s[m] then 0 else Pl.we (s.data.toList.drop (m + 1)) + 1) := by
          show _ = _; rw [drop_at s m hm, Pl.we_cons]
        cases hb : Pl.blank s[m]
        · rw [hb] at T HW
          have HW' : Hid (Pl.we (s.data.toList.drop m) = Pl.we (s.data.toList.drop (m + 1)) + 1) := HW
          clear hb HW
          go_wp2_with fail
          refine (T.out _).mono ?_
          rintro e w' ⟨rfl, rfl⟩
          go_wp2_with fail
          go_round
          case rel =>
            refine ⟨m, q, by omega, ?_, rfl, ?_⟩
            · by_cases h0 : m = 0
              · exact .inl ⟨h0, by subst h0; rfl⟩
              · exact .inr ⟨m - 1, by omega, by congr 1; omega⟩
            · show q = _; have := hq.out; have := HW'.out; omega
          case measure => simp [intOf]
        · rw [hb] at T HW
          have HW' : Hid (Pl.we (s.data.toList.drop m) = 0) := HW
          clear hb HW
          go_wp2_with fail
          refine (T.out _).mono ?_
          rintro e w' ⟨rfl, rfl⟩
          go_wp2_with fail
          go_round
          case rel =>
            refine ⟨m, m, by omega, ?_, rfl, ?_⟩
            · by_cases h0 : m = 0
              · exact .inl ⟨h0, by subst h0; rfl⟩
              · exact .inr ⟨m - 1, by omega, by congr 1; omega⟩
            · show m = _; have := HW'.out; omega
          case measure => simp [intOf]
  · have Z : Hid (∀ W, Calls Try.prog 7 #[.string s] W fun e w' => e = .returned (.bool false) ∧ w' = W) := by
      intro W
      have := zz3_any s W w0
      rw [decide_eq_false hs] at this
      exact this
    clear w0
    go_enter Try.func3, Try.ntmps3
    go_wp2_with fail
    refine (Z.out _).mono ?_
    rintro e w' ⟨rfl, rfl⟩
    go_wp2_with fail
    go_ret
    exact ⟨rfl, rfl⟩

end Go.Proofs.Qxb6603737a
