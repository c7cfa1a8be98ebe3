/-
  The walks over a slice of strings: zzBytes_FnTextFirstWordIsFirstArgs, sizeFitB1 (at no labels, no bodies), cloneStringsB1.
-/
import Derived.Test.Qxb6603737aWalk
import Derived.Lib.SliceRun
import Derived.Deep.OwnRows
namespace Go.Proofs.Qxb6603737a
open Go.RowKit
set_option linter.unusedVariables false

/-- What is known of a slice of strings: its n strings are xs. -/
structure Strs (w : World) (a : Option Addr) (n : Nat) (xs : List ByteArray) : Prop where
  len : xs.length = n
  at0 : 0 < n → ∃ b off, a = some ⟨b, off, none⟩ ∧ b < w.heap.size ∧ ∀ i, i < n → w.cell? ⟨b, off + i, none⟩ = some (.string (xs.getD i ByteArray.empty))
  fit : ∀ i, (xs.getD i ByteArray.empty).size ≤ 9223372036854775807

/-- The lengths of the first k strings, added. -/
def sumTo (xs : List ByteArray) (k : Nat) : Nat := ((xs.take k).map ByteArray.size).sum
theorem sumTo_zero (xs : List ByteArray) : sumTo xs 0 = 0 := by simp [sumTo]
theorem sumTo_succ (xs : List ByteArray) (k : Nat) (h : k < xs.length) : sumTo xs (k + 1) = sumTo xs k + (xs.getD k ByteArray.empty).size := by
  unfold sumTo
  rw [List.take_succ_eq_append_getElem h, List.map_append, List.sum_append, List.getD_eq_getElem?_getD, List.getElem?_eq_getElem h]
  simp

def BoolEnds (e : Ending) : Prop := ∃ r : Bool, e = .returned (.bool r)
theorem be {e : Ending} (r : Bool) (h : e = .returned (.bool r)) : BoolEnds e := ⟨r, h⟩

set_option maxHeartbeats 1000000 in
theorem zz16_any (a : Option Addr) (n c : Nat) (xs : List ByteArray) (w : World) (hn : n ≤ 9223372036854775807) (hS : Strs w a n xs) :
    Calls Try.prog 16 #[.slice a n c] w fun e w' => BoolEnds e ∧ w' = w := by
  by_cases hbig : 1048576 < n
  · go_enter Try.func16, Try.ntmps16
    go_wp2
    go_ret
    exact ⟨be _ rfl, rfl⟩
  · by_cases h0 : 0 < n
    · obtain ⟨b, off, rfl, _, hc⟩ := hS.at0 h0
      have HC : Hid (∀ i, i < n → w.cell? ⟨b, off + i, none⟩ = some (.string (xs.getD i ByteArray.empty))) := hc
      have HF : Hid (∀ i, (xs.getD i ByteArray.empty).size ≤ 9223372036854775807) := hS.fit
      clear hc hS
      go_enter Try.func16, Try.ntmps16
      go_wp2
      go_loop [3, 4] (fun v i => ∃ k z : Nat, k ≤ n ∧ z ≤ 1048576 ∧ i = .int .i64 k ∧ v = .int .i64 z) (fun _ i => n - (intOf i).toNat)
      case atStart => exact ⟨0, n, Nat.zero_le _, by omega, rfl, rfl⟩
      case round =>
        obtain ⟨k, z, hk, hz, rfl, rfl⟩ := hrel
        by_cases hlt : k < n
        · have hcell := HC.out k hlt
          have hfit := HF.out k
          generalize xs.getD k ByteArray.empty = x at *
          by_cases hx : 1048576 < x.size
          · go_wp2
            go_ret
            exact ⟨be _ rfl, rfl⟩
          · by_cases hzx : 1048576 < z + x.size
            · go_wp2
              go_ret
              exact ⟨be _ rfl, rfl⟩
            · go_wp2
              go_round
              case rel => exact ⟨k + 1, z + x.size, by omega, by omega, by go_num, by go_num⟩
              case measure => simp [intOf]; omega
        · go_wp2
          go_ret
          exact ⟨be _ rfl, rfl⟩
    · obtain rfl : n = 0 := by omega
      clear hS
      go_enter Try.func16, Try.ntmps16
      go_wp2
      go_loop [3, 4] (fun v i => i = .int .i64 0) (fun _ _ => 0)
      case atStart => rfl
      case round =>
        subst hrel
        go_wp2
        go_ret
        exact ⟨be _ rfl, rfl⟩

/-- What sizeFitB1 gives: a bool; true only where the strings are few and short. -/
def FitEnds (n : Nat) (xs : List ByteArray) (e : Ending) : Prop := ∃ r : Bool, e = .returned (.bool r) ∧ (r = true → n ≤ 65536 ∧ 16 * n + sumTo xs n ≤ 1048576)
theorem fit_no {n : Nat} {xs : List ByteArray} {e : Ending} (h : e = .returned (.bool false)) : FitEnds n xs e := ⟨false, h, fun h => by cases h⟩
theorem fit_yes {n : Nat} {xs : List ByteArray} {e : Ending} (h : e = .returned (.bool true)) (h1 : n ≤ 65536) (h2 : 16 * n + sumTo xs n ≤ 1048576) : FitEnds n xs e := ⟨true, h, fun _ => ⟨h1, h2⟩⟩

set_option maxHeartbeats 2000000 in
theorem fit_any (a : Option Addr) (n c : Nat) (xs : List ByteArray) (w : World) (hn : n ≤ 9223372036854775807) (hS : Strs w a n xs) :
    Calls Try.prog 13 #[.string ⟨#[]⟩, .slice a n c, .slice none 0 0, .slice none 0 0] w fun e w' => FitEnds n xs e ∧ w' = w := by
  by_cases hbig : 65536 < n
  · have hd : decide ((65536 : Int) < (n : Int)) = true := decide_eq_true (by omega)
    go_enter Try.func13, Try.ntmps13
    go_wp2
    go_ret
    exact ⟨fit_no rfl, rfl⟩
  · have hd : decide ((65536 : Int) < (n : Int)) = false := decide_eq_false (by omega)
    by_cases h0 : 0 < n
    · obtain ⟨b, off, rfl, _, hc⟩ := hS.at0 h0
      have HC : Hid (∀ i, i < n → w.cell? ⟨b, off + i, none⟩ = some (.string (xs.getD i ByteArray.empty))) := hc
      have HF : Hid (∀ i, (xs.getD i ByteArray.empty).size ≤ 9223372036854775807) := hS.fit
      have HL : Hid (xs.length = n) := hS.len
      clear hc hS
      go_enter Try.func13, Try.ntmps13
      go_wp2
      go_loop [9, 10] (fun v i => ∃ k z : Nat, k ≤ n ∧ z ≤ 1048576 ∧ i = .int .i64 k ∧ v = .int .i64 z ∧ Hid (z = 16 * k + sumTo xs k)) (fun _ i => n - (intOf i).toNat)
      case atStart => exact ⟨0, 0, Nat.zero_le _, by omega, rfl, rfl, by rw [sumTo_zero]; rfl⟩
      case round =>
        obtain ⟨k, z, hk, hz, rfl, rfl, HZ⟩ := hrel
        by_cases hlt : k < n
        · have hcell := HC.out k hlt
          have hfit := HF.out k
          have HS : Hid (sumTo xs (k + 1) = sumTo xs k + (xs.getD k ByteArray.empty).size) := sumTo_succ xs k (by rw [HL.out]; exact hlt)
          generalize xs.getD k ByteArray.empty = x at *
          by_cases hx : 1048576 < x.size
          · go_wp2
            go_ret
            exact ⟨fit_no rfl, rfl⟩
          · by_cases hzx : 1048576 < z + (16 + x.size)
            · go_wp2
              go_ret
              exact ⟨fit_no rfl, rfl⟩
            · go_wp2
              go_round
              case rel => exact ⟨k + 1, z + (16 + x.size), by omega, by omega, by go_num, by go_num, by show _ = _; have := HS.out; have := HZ.out; omega⟩
              case measure => simp [intOf]; omega
        · obtain rfl : k = n := by omega
          go_wp2
          go_loop [11] (fun i => i = .int .i64 0) (fun _ => 0)
          case atStart => rfl
          case round =>
            subst hrel
            go_wp2
            go_loop [12] (fun i => i = .int .i64 0) (fun _ => 0)
            case atStart => rfl
            case round =>
              subst hrel
              go_wp2
              go_ret
              exact ⟨fit_yes rfl (by omega) (by have := HZ.out; omega), rfl⟩
    · obtain rfl : n = 0 := by omega
      clear hS
      go_enter Try.func13, Try.ntmps13
      go_wp2
      go_loop [10] (fun i => i = .int .i64 0) (fun _ => 0)
      case atStart => rfl
      case round =>
        subst hrel
        go_wp2
        go_loop [11] (fun i => i = .int .i64 0) (fun _ => 0)
        case atStart => rfl
        case round =>
          subst hrel
          go_wp2
          go_loop [12] (fun i => i = .int .i64 0) (fun _ => 0)
          case atStart => rfl
          case round =>
            subst hrel
            go_wp2
            go_ret
            exact ⟨fit_yes rfl (by omega) (by rw [sumTo_zero]; omega), rfl⟩

theorem info9 : (Try.prog.info? 9).map (fun i => (i.zero, i.size, i.bytes)) = some (some (Value.string ⟨#[]⟩), 1, 16) := by kernel_rfl

set_option maxHeartbeats 400000 in
theorem clone_nil (w : World) : Calls Try.prog 14 #[.slice none 0 0] w fun e w' => e = .returned (.slice none 0 0) ∧ w' = w := by
  have hq := fun (W : World) (a : Option Addr) (n c : Nat) => Lib.run_eql_slice_nil (P := Try.prog) W 25 9 a n c 0 0 Try.underlying25
  go_enter Try.func14, Try.ntmps14
  go_wp2
  go_ret
  exact ⟨rfl, rfl⟩

def rowAt (xs : List ByteArray) (k : Nat) : Nat → Value := fun j => if j < k then .string (xs.getD j ByteArray.empty) else .string ⟨#[]⟩
theorem rowAt_zero (xs : List ByteArray) : rowAt xs 0 = fun _ => .string ⟨#[]⟩ := by funext j; simp [rowAt]
theorem rowAt_step (xs : List ByteArray) (k j : Nat) : (if j = k then Value.string (xs.getD k ByteArray.empty) else rowAt xs k j) = rowAt xs (k + 1) j := by
  unfold rowAt
  by_cases hj : j = k
  · subst hj; rw [if_pos rfl, if_pos (by omega)]
  · rw [if_neg hj]
    by_cases hl : j < k
    · rw [if_pos hl, if_pos (by omega)]
    · rw [if_neg hl, if_neg (by omega)]

set_option maxHeartbeats 1000000 in
theorem clone_some (x : Addr) (n c : Nat) (xs : List ByteArray) (w : World) (hn : n ≤ 65536) (hS : Strs w (some x) n xs) :
    Calls Try.prog 14 #[.slice (some x) n c] w fun e w' => e = .returned (.slice (some ⟨w.heap.size, 0, none⟩) n n) ∧ w'.rowIs w.heap.size 9 n (rowAt xs n) ∧ Below w.heap.size w w' := by
  have hq := fun (W : World) (a : Option Addr) (n c : Nat) => Lib.run_eql_slice_nil (P := Try.prog) W 25 9 a n c 0 0 Try.underlying25
  have hmk := fun w : World => run_make_row' (P := Try.prog) 25 9 (.string ⟨#[]⟩) 16 Try.underlying25 info9 rfl .i64 .i64 n (by omega) (by omega) w
  by_cases h0 : 0 < n
  · obtain ⟨b, off, hx, hb, hc⟩ := hS.at0 h0
    obtain rfl := Option.some.inj hx
    have HC : Hid (∀ i, i < n → w.cell? ⟨b, off + i, none⟩ = some (.string (xs.getD i ByteArray.empty))) := hc
    have HB : Hid (b < w.heap.size) := hb
    clear hc hb hS hx
    go_enter Try.func14, Try.ntmps14
    go_wp2
    go_loopw [4] (fun i wr => ∃ k : Nat, k ≤ n ∧ i = .int .i64 k ∧ Hid (wr.rowIs w.heap.size 9 n (rowAt xs k)) ∧ Hid (Below w.heap.size w wr)) (fun i _ => n - (intOf i).toNat)
    case atStart => exact ⟨0, Nat.zero_le _, rfl, by rw [rowAt_zero]; exact World.rowIs_made w _ _ _, (Below.refl _ _).alloc (Nat.le_refl _) _⟩
    case round =>
      obtain ⟨k, hk, rfl, hrow, hbel⟩ := hrel
      by_cases hlt : k < n
      · have hf := hrow.out.frozen k
        have hc := hrow.out.cell hlt
        have hcs := (hbel.out.cell (p := ⟨b, off + k, none⟩) HB.out).trans (HC.out k hlt)
        generalize hxk : xs.getD k ByteArray.empty = x at *
        have HX : Hid (xs.getD k ByteArray.empty = x) := hxk
        clear hxk
        go_wp2
        go_roundw
        case rel => exact ⟨k + 1, by omega, by go_num, (hrow.out.set k _).congr (fun j _ => by rw [← HX.out]; exact rowAt_step xs k j), hbel.out.setCell (Nat.le_refl _) _⟩
        case measure => simp [intOf]; omega
      · have hk2 : k = n := by omega
        subst hk2
        go_wp2
        go_ret
        exact ⟨rfl, hrow.out, hbel.out⟩
  · obtain rfl : n = 0 := by omega
    clear hS
    have hmk0 : ∀ w : World, (Instr.makeSlice 25 (.int .i64 0) (.int .i64 0)).run Try.prog w = .ok (.slice (some ⟨w.heap.size, 0, none⟩) 0 0) (w.alloc (.cells (madeCells #[.string ⟨#[]⟩] 0) 9)) := hmk
    clear hmk
    go_enter Try.func14, Try.ntmps14
    go_wp2
    go_loopw [4] (fun i wr => i = .int .i64 0 ∧ Hid (wr.rowIs w.heap.size 9 0 (rowAt xs 0)) ∧ Hid (Below w.heap.size w wr)) (fun _ _ => 0)
    case atStart => exact ⟨rfl, by rw [rowAt_zero]; exact World.rowIs_made w _ _ _, (Below.refl _ _).alloc (Nat.le_refl _) _⟩
    case round =>
      obtain ⟨rfl, hrow, hbel⟩ := hrel
      go_wp2
      go_ret
      exact ⟨rfl, hrow.out, hbel.out⟩

end Go.Proofs.Qxb6603737a
