/-
  The law's own walk.
-/
import Derived.Test.Qxb6603681aWalk
namespace Go.Proofs.Qxb6603681a
open Go.RowKit
set_option linter.unusedVariables false

set_option maxHeartbeats 400000 in
theorem zzhas_of (v : Value) (r : Bool) (w : World) (C : Hid (Calls Try.prog 15 #[v] w fun e w' => e = .returned (.bool r) ∧ w' = w)) :
    Calls Try.prog 9 #[v] w fun e w' => e = .returned (.bool r) ∧ w' = w := by
  go_enter Try.func9, Try.ntmps9
  go_wp2_with fail
  refine C.out.mono ?_
  rintro e w' ⟨rfl, rfl⟩
  go_wp2_with fail
  go_ret
  exact ⟨rfl, rfl⟩

theorem row_cells {w : World} {b n : Nat} {xs : List Int} (h : w.rowIs b 5 n (rowAt xs n)) : ∀ i, i < n → w.cell? ⟨b, 0 + i, none⟩ = some (.int .u8 (xs.getD i 0)) := by
  intro i hi
  rw [Nat.zero_add, h.cell hi]
  unfold rowAt
  rw [if_pos hi]

theorem zzhas_row (b n c : Nat) (xs : List Int) (w : World) (hx : xs.length = n) (hr : ∀ x ∈ xs, 0 ≤ x ∧ x < 256) (hrow : w.rowIs b 5 n (rowAt xs n)) :
    Calls Try.prog 9 #[.slice (some ⟨b, 0, none⟩) n c] w fun e w' => e = .returned (.bool (anyTB xs)) ∧ w' = w := by
  have hc := row_cells hrow
  refine zzhas_of _ _ w ?_
  rw [anyTB_eq xs hr]
  exact has_of _ _ _ _ w (index_any b n c xs 10 w hx hc) (index_any b n c xs 9 w hx hc) (index_any b n c xs 13 w hx hc)
theorem zzhas_nil (w : World) : Calls Try.prog 9 #[.slice none 0 0] w fun e w' => e = .returned (.bool false) ∧ w' = w :=
  zzhas_of _ _ w (has_of _ (-1) (-1) (-1) w (index_nil 10 w) (index_nil 9 w) (index_nil 13 w))

set_option maxHeartbeats 400000 in
theorem top_big (a : Option Addr) (n c : Nat) (w : World) (h : ¬ n ≤ 1048576) (hn : n ≤ 9223372036854775807) :
    Calls Try.prog 3 #[.slice a n c] w fun e w' => e = .returned (.bool true) ∧ Below w.heap.size w w' := by
  have Z : Hid (∀ W, Calls Try.prog 6 #[.slice a n c] W fun e w' => e = .returned (.bool false) ∧ w' = W) := by
    intro W
    have := zz_any a n c W hn
    rw [decide_eq_false h] at this
    exact this
  go_enter Try.func3, Try.ntmps3
  go_wp2_with fail
  refine (Z.out _).mono ?_
  rintro e w' ⟨rfl, rfl⟩
  go_wp2_with fail
  go_ret
  exact ⟨rfl, Below.refl _ _⟩

set_option maxHeartbeats 400000 in
theorem top_nil (w : World) :
    Calls Try.prog 3 #[.slice none 0 0] w fun e w' => e = .returned (.bool true) ∧ Below w.heap.size w w' := by
  have Z : Hid (∀ W, Calls Try.prog 6 #[.slice none 0 0] W fun e w' => e = .returned (.bool true) ∧ w' = W) := fun W => zz_any none 0 0 W (by omega)
  go_enter Try.func3, Try.ntmps3
  go_wp2_with fail
  refine (Z.out _).mono ?_
  rintro e w' ⟨rfl, rfl⟩
  go_wp2_with fail
  refine (clone_nil _).mono ?_
  rintro e w' ⟨rfl, rfl⟩
  go_wp2_with fail
  go_loop [3, 4] (fun v i => v = .bool false ∧ i = .int .i64 0) (fun _ _ => 0)
  case atStart => exact ⟨rfl, rfl⟩
  case round =>
    obtain ⟨rfl, rfl⟩ := hrel
    go_wp2_with fail
    refine (zzhas_nil _).mono ?_
    rintro e w' ⟨rfl, rfl⟩
    go_wp2_with fail
    go_ret
    exact ⟨rfl, Below.refl _ _⟩

set_option maxHeartbeats 1000000 in
theorem top_some (b off n c : Nat) (sp : Option Nat) (xs : List Int) (w : World) (hn : n ≤ 1048576) (hsp : 0 < n → sp = none) (hb : 0 < n → b < w.heap.size)
    (hc : ∀ i, i < n → w.cell? ⟨b, off + i, none⟩ = some (.int .u8 (xs.getD i 0))) (hx : xs.length = n) (hr : ∀ x ∈ xs, 0 ≤ x ∧ x < 256) :
    Calls Try.prog 3 #[.slice (some ⟨b, off, sp⟩) n c] w fun e w' => e = .returned (.bool true) ∧ Below w.heap.size w w' := by
  have Z : Hid (∀ W, Calls Try.prog 6 #[.slice (some ⟨b, off, sp⟩) n c] W fun e w' => e = .returned (.bool true) ∧ w' = W) := by
    intro W
    have := zz_any (some ⟨b, off, sp⟩) n c W (by omega)
    rw [decide_eq_true hn] at this
    exact this
  have C : Hid (Calls Try.prog 7 #[.slice (some ⟨b, off, sp⟩) n c] w fun e w' => e = .returned (.slice (some ⟨w.heap.size, 0, none⟩) n n) ∧ w'.rowIs w.heap.size 5 n (rowAt xs n) ∧ Below w.heap.size w w') := clone_some b off n c sp xs w hn hsp hb hc
  have HX : Hid (xs.length = n) := hx
  have HR : Hid (∀ x ∈ xs, 0 ≤ x ∧ x < 256) := hr
  clear hx hr hc hb hsp
  go_enter Try.func3, Try.ntmps3
  go_wp2_with fail
  refine (Z.out _).mono ?_
  rintro e w' ⟨rfl, rfl⟩
  go_wp2_with fail
  refine C.out.mono ?_
  rintro e w1 ⟨rfl, hrow, hbel⟩
  have HROW : Hid (w1.rowIs w'.heap.size 5 n (rowAt xs n)) := hrow
  have HBEL : Hid (Below w'.heap.size w' w1) := hbel
  clear hrow hbel
  go_wp2_with fail
  go_loop [3, 4] (fun v i => ∃ k : Nat, k ≤ n ∧ i = .int .i64 k ∧ v = .bool (anyTB (xs.take k))) (fun _ i => n - (intOf i).toNat)
  case atStart => exact ⟨0, Nat.zero_le _, rfl, rfl⟩
  case round =>
    obtain ⟨k, hk, rfl, rfl⟩ := hrel
    by_cases hlt : k < n
    · have hcell := row_cells HROW.out k hlt
      rw [Nat.zero_add] at hcell
      have HS : Hid (anyTB (xs.take (k + 1)) = (anyTB (xs.take k) || tb (xs.getD k 0))) := anyTB_snoc xs k (by rw [HX.out]; exact hlt)
      generalize hxk : xs.getD k 0 = x at *
      clear hxk
      generalize anyTB (xs.take k) = p at *
      have T := (show Hid (∀ W, Calls Try.prog 8 #[.int .u8 x] W fun e w' => e = .returned (.bool (tb x)) ∧ w' = W) from tb_any x)
      generalize tb x = q at *
      cases q
      · go_wp2_with fail
        refine (T.out _).mono ?_
        rintro e w' ⟨rfl, rfl⟩
        go_wp2_with fail
        go_round
        case rel => exact ⟨k + 1, by omega, by go_num, by rw [HS.out, Bool.or_false]⟩
        case measure => simp [intOf]; omega
      · go_wp2_with fail
        refine (T.out _).mono ?_
        rintro e w' ⟨rfl, rfl⟩
        go_wp2_with fail
        go_round
        case rel => exact ⟨k + 1, by omega, by go_num, by rw [HS.out, Bool.or_true]⟩
        case measure => simp [intOf]; omega
    · have hk2 : k = n := by omega
      subst hk2
      have hall : xs.take k = xs := List.take_of_length_le (by rw [HX.out]; exact Nat.le_refl _)
      rw [hall]
      clear hall
      go_wp2_with fail
      refine (zzhas_row _ _ _ xs _ HX.out HR.out HROW.out).mono ?_
      rintro e w' ⟨rfl, rfl⟩
      go_wp2_with fail
      go_ret
      exact ⟨ret_bool (by simp), HBEL.out⟩

end Go.Proofs.Qxb6603681a
