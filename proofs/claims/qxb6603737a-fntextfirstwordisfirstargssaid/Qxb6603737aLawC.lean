/-
  The walk of FnTextFirstWordIsFirstArgs.
-/
import Derived.Test.Qxb6603737aText
import Derived.Deep.QuietTactic
import Derived.BigQuiet
import Derived.Deep.RegionWith
namespace Go.Proofs.Qxb6603737a
open Go.RowKit
set_option linter.unusedVariables false

set_option maxHeartbeats 1000000 in
theorem text_zero (I c : Nat) (a : Option Addr) (w : World) (hI : I < w.heap.size) (hIc : w.cell? ⟨I, 1, none⟩ = some (.slice a 0 c)) :
    Calls Try.prog 15 #[.pointer (some ⟨I, 0, none⟩)] w fun e w' => e = .returned (.string ⟨#[]⟩) ∧ Below w.heap.size w w' := by
  have HIC : Hid (w.cell? ⟨I, 1, none⟩ = some (.slice a 0 c)) := hIc
  go_enter Try.func15, Try.ntmps15
  go_wp2
  go_loop [3, 5, 21] (fun v _ i => i = .int .i64 0 ∧ v = .int .i64 0) (fun _ _ _ => 0)
  case atStart => exact ⟨rfl, rfl⟩
  case round =>
    obtain ⟨rfl, rfl⟩ := hrel
    go_wp2_with fail
    refine (Try.Builder_Grow_fresh w.heap.size w.heap.size 0 _ (Nat.le_refl _) (by exact heap_alloc_new w _) (by simp) (by omega)).mono ?_
    rintro e w2 ⟨rfl, hB2, hbel2⟩
    have HB2 : Hid (Lib.BuilderAt 38 5 w.heap.size w.heap.size (.pointer (some ⟨w.heap.size, 0, none⟩)) [] w2) := hB2
    have HBE : Hid (Below w.heap.size w w2) := ((Below.refl _ _).alloc (Nat.le_refl _) _).trans hbel2
    clear hB2 hbel2
    have hIc2 := (HBE.out.cell (p := ⟨I, 1, none⟩) hI).trans HIC.out
    clear hIc
    go_wp2_with fail
    go_loop [7, 8, 37] (fun _ _ i => i = .int .i64 0) (fun _ _ _ => 0)
    case atStart => rfl
    case round =>
      subst hrel
      have hsz := HBE.out.size
      go_wp2_with fail
      refine (Try.Builder_String_any w.heap.size w.heap.size [] _ (.inr (by exact HB2.out)) (by exact hsz)).mono ?_
      rintro e w5 ⟨rfl, hbel5⟩
      have HBE5 : Hid (Below w.heap.size w w5) := HBE.out.trans hbel5
      clear hbel5
      go_wp2_with fail
      go_ret
      exact ⟨rfl, HBE5.out⟩

theorem build_item (v : Value) (a : Option Addr) (n c : Nat) (hv : v = .slice a n c) (W : World) : (Instr.build 32 #[(1, .slice a n c)]).run Try.prog W = .ok (.agg #[.string ⟨#[]⟩, .slice a n c, .slice none 0 0, .int .i64 0, .int .i64 0, .int .i64 0, .int .i64 0]) W := by kernel_rfl

/-- What the law asks of its callees, at an argument of n strings. -/
theorem item_block (w1 : World) (v : Value) : (w1.alloc (.cells #[.string ⟨#[]⟩, v, .slice none 0 0, .int .i64 0, .int .i64 0, .int .i64 0, .int .i64 0] 32)).cell? ⟨w1.heap.size, 1, none⟩ = some v := by
  have := heap_alloc_new w1 (.cells #[.string ⟨#[]⟩, v, .slice none 0 0, .int .i64 0, .int .i64 0, .int .i64 0, .int .i64 0] 32)
  rw [Lib.cell_of_heap this 1]; rfl

theorem item_below (w1 : World) (o : Obj) {w2 : World} (h : Below (w1.alloc o).heap.size (w1.alloc o) w2) : Below w1.heap.size w1 w2 :=
  ((Below.refl _ w1).alloc (Nat.le_refl _) o).trans (h.mono (by simp))

set_option maxHeartbeats 1000000 in
/-- At no strings: whatever the clone's value. -/
theorem lawC_zero (a a' : Option Addr) (c c' : Nat) (w : World)
    (Z : Hid (Calls Try.prog 16 #[.slice a 0 c] w fun e w' => BoolEnds e ∧ w' = w))
    (F : Hid (Calls Try.prog 13 #[.string ⟨#[]⟩, .slice a 0 c, .slice none 0 0, .slice none 0 0] w fun e w' => BoolEnds e ∧ w' = w))
    (CL : Hid (Calls Try.prog 14 #[.slice a 0 c] w fun e w' => e = .returned (.slice a' 0 c') ∧ Below w.heap.size w w')) :
    Calls Try.prog 6 #[.slice a 0 c] w fun e w' => e = .returned (.bool true) ∧ Below w.heap.size w w' := by
  have hb := fun (W : World) (a : Option Addr) (n c : Nat) => build_item (.slice a n c) a n c rfl W
  have W0 : Hid (∀ W, Calls Try.prog 9 #[.string ⟨#[]⟩] W fun e w' => e = .returned (.int .i64 0) ∧ w' = W) := fun W => zzwe_any ⟨#[]⟩ W (by show (0 : Nat) ≤ _; omega)
  go_enter Try.func6, Try.ntmps6
  go_wp2_with fail
  refine Z.out.mono ?_
  rintro e w' ⟨⟨r, rfl⟩, rfl⟩
  cases r
  · go_wp2_with fail
    go_ret
    exact ⟨rfl, Below.refl _ _⟩
  · go_wp2_with fail
    refine F.out.mono ?_
    rintro e w2 ⟨⟨r, rfl⟩, rfl⟩
    cases r
    · go_wp2_with fail
      go_ret
      exact ⟨rfl, Below.refl _ _⟩
    · go_wp2_with fail
      refine CL.out.mono ?_
      rintro e w1 ⟨rfl, hbel⟩
      have HB1 : Hid (Below w2.heap.size w2 w1) := hbel
      clear hbel
      go_wp2_with fail
      refine (text_zero w1.heap.size c' a' _ (by simp) (item_block w1 _)).mono ?_
      rintro e w3 ⟨rfl, hbel3⟩
      have HB3 : Hid (Below w2.heap.size w2 w3) := HB1.out.trans ((item_below w1 _ hbel3).mono HB1.out.size)
      clear hbel3
      go_wp2_with fail
      refine (W0.out _).mono ?_
      rintro e w4 ⟨rfl, rfl⟩
      go_wp2_with fail
      go_ret
      exact ⟨rfl, HB3.out⟩

set_option maxHeartbeats 2000000 in
/-- At n strings, n > 0. -/
theorem lawC_some (x : Addr) (n c : Nat) (xs : List ByteArray) (w : World) (h0 : 0 < n) (hn : n ≤ 9223372036854775807) (hS : Strs w (some x) n xs) :
    Calls Try.prog 6 #[.slice (some x) n c] w fun e w' => e = .returned (.bool true) ∧ Below w.heap.size w w' := by
  have hb := fun (W : World) (a : Option Addr) (n c : Nat) => build_item (.slice a n c) a n c rfl W
  have Z : Hid (Calls Try.prog 16 #[.slice (some x) n c] w fun e w' => BoolEnds e ∧ w' = w) := zz16_any (some x) n c xs w hn hS
  have F : Hid (Calls Try.prog 13 #[.string ⟨#[]⟩, .slice (some x) n c, .slice none 0 0, .slice none 0 0] w fun e w' => FitEnds n xs e ∧ w' = w) := fit_any (some x) n c xs w hn hS
  have CL : Hid (n ≤ 65536 → Calls Try.prog 14 #[.slice (some x) n c] w fun e w' => e = .returned (.slice (some ⟨w.heap.size, 0, none⟩) n n) ∧ w'.rowIs w.heap.size 9 n (rowAt xs n) ∧ Below w.heap.size w w') := fun h => clone_some x n c xs w h hS
  have HL : Hid (xs.length = n) := hS.len
  have HF : Hid (∀ i, (xs.getD i ByteArray.empty).size ≤ 9223372036854775807) := hS.fit
  have hne : ((n : Int) == 0) = false := by rw [beq_eq_false_iff_ne]; omega
  clear hS
  go_enter Try.func6, Try.ntmps6
  go_wp2_with fail
  refine Z.out.mono ?_
  rintro e w' ⟨⟨r, rfl⟩, rfl⟩
  cases r
  · go_wp2_with fail
    go_ret
    exact ⟨rfl, Below.refl _ _⟩
  · go_wp2_with fail
    refine F.out.mono ?_
    rintro e w2 ⟨⟨r, rfl, hr⟩, rfl⟩
    cases r
    · clear hr
      go_wp2_with fail
      go_ret
      exact ⟨rfl, Below.refl _ _⟩
    · obtain ⟨hn2, hsum⟩ := hr rfl
      clear hr
      have HSUM : Hid (16 * n + sumTo xs n ≤ 1048576) := hsum
      clear hsum
      go_wp2_with fail
      refine (CL.out hn2).mono ?_
      rintro e w1 ⟨rfl, hrow, hbel⟩
      have HB1 : Hid (Below w2.heap.size w2 w1) := hbel
      have HROW : Hid (w1.rowIs w2.heap.size 9 n (rowAt xs n)) := hrow
      clear hbel hrow
      have hlt := HROW.out.lt
      go_wp2_with fail
      refine (text_some w1.heap.size n w2.heap.size 0 xs _ h0 hn2 HL.out (by have := HSUM.out; omega) (by simp) (by simp; omega) (item_block w1 _) (fun i hi => ?_)).mono ?_
      · rw [Nat.zero_add, (HROW.out.alloc _).cell hi]; unfold rowAt; rw [if_pos hi]
      rintro e w3 ⟨rfl, hbel3⟩
      have HB3 : Hid (Below w1.heap.size w1 w3) := item_below w1 _ hbel3
      clear hbel3
      have hc0 := (HB3.out.cell (p := ⟨w2.heap.size, 0, none⟩) hlt).trans (HROW.out.cell h0)
      have e0 : rowAt xs n 0 = .string (xs.getD 0 ByteArray.empty) := by unfold rowAt; rw [if_pos h0]
      rw [e0] at hc0
      clear e0
      have hsz : (⟨(jt xs n).toArray⟩ : ByteArray).size ≤ maxLen := by
        rw [← len_toList]
        show (jt xs n).length ≤ _
        have := jt_len xs n (by rw [HL.out]; exact Nat.le_refl _)
        have := HSUM.out
        unfold maxLen
        omega
      have W1 : Hid (∀ W, Calls Try.prog 9 #[.string ⟨(jt xs n).toArray⟩] W fun e w' => e = .returned (.int .i64 (Pl.we (xs.getD 0 ByteArray.empty).data.toList : Int)) ∧ w' = W) := fun W => by
        have := zzwe_any ⟨(jt xs n).toArray⟩ W hsz
        rw [show (⟨(jt xs n).toArray⟩ : ByteArray).data.toList = jt xs n from rfl, we_jt xs n h0] at this
        exact this
      have W2 : Hid (∀ W, Calls Try.prog 9 #[.string (xs.getD 0 ByteArray.empty)] W fun e w' => e = .returned (.int .i64 (Pl.we (xs.getD 0 ByteArray.empty).data.toList : Int)) ∧ w' = W) := fun W => zzwe_any _ W (HF.out 0)
      generalize Pl.we (xs.getD 0 ByteArray.empty).data.toList = p at *
      generalize (⟨(jt xs n).toArray⟩ : ByteArray) = T at *
      generalize xs.getD 0 ByteArray.empty = x0 at *
      clear hsz
      have h0i : (0 : Int) < (n : Int) := by omega
      go_wp2_with fail
      go_quiet (first | (go_at_call_of 9 (Value.string T); exact Calls.quiet_of_same (W1.out _)) | (go_at_call_of 9 (Value.string x0); exact Calls.quiet_of_same (W2.out _)))
      go_wp2_with fail
      go_ret
      exact ⟨ret_bool (by simp), below_drewN (HB1.out.trans (HB3.out.mono HB1.out.size)) _⟩

theorem fit_bool {n : Nat} {xs : List ByteArray} {e : Ending} (h : FitEnds n xs e) : BoolEnds e := by
  obtain ⟨r, hr, _⟩ := h
  exact ⟨r, hr⟩

theorem lawC_nil (w : World) : Calls Try.prog 6 #[.slice none 0 0] w fun e w' => e = .returned (.bool true) ∧ Below w.heap.size w w' := by
  have hS : Strs w none 0 [] := ⟨rfl, fun h => by omega, fun i => by simp⟩
  refine lawC_zero none none 0 0 w (zz16_any none 0 0 [] w (by omega) hS) ?_ ?_
  · refine (fit_any none 0 0 [] w (by omega) hS).mono ?_
    rintro e w' ⟨h, rfl⟩
    exact ⟨fit_bool h, rfl⟩
  · refine (clone_nil w).mono ?_
    rintro e w' ⟨rfl, rfl⟩
    exact ⟨rfl, Below.refl _ _⟩

theorem lawC_empty (x : Addr) (c : Nat) (w : World) : Calls Try.prog 6 #[.slice (some x) 0 c] w fun e w' => e = .returned (.bool true) ∧ Below w.heap.size w w' := by
  have hS : Strs w (some x) 0 [] := ⟨rfl, fun h => by omega, fun i => by simp⟩
  refine lawC_zero (some x) (some ⟨w.heap.size, 0, none⟩) c 0 w (zz16_any (some x) 0 c [] w (by omega) hS) ?_ ?_
  · refine (fit_any (some x) 0 c [] w (by omega) hS).mono ?_
    rintro e w' ⟨h, rfl⟩
    exact ⟨fit_bool h, rfl⟩
  · refine (clone_some x 0 c [] w (by omega) hS).mono ?_
    rintro e w' ⟨rfl, _, h⟩
    exact ⟨rfl, h⟩

end Go.Proofs.Qxb6603737a
