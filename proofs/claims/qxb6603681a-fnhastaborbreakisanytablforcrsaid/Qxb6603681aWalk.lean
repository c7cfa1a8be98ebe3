/-
  The walks of the seat: zzBytes, zzIsTabOrBreakByte, zzCloneBytes, bytes.IndexByte, hasTabOrBreak, and the law.
-/
import Derived.Test.Qxb6603681aRows
import Derived.WalkKit
import Derived.WalkSpells
import Derived.WalkLawsBesides
import Derived.Lib.Walk
import Derived.Lib.BytesEntry
import Derived.Lib.IndexAny
import Derived.Lib.SliceRun
import Derived.Deep.OwnRows
namespace Go.Proofs.Qxb6603681a
open Go.RowKit
set_option linter.unusedVariables false

theorem ret_bool {a b : Bool} (h : a = b) : Ending.returned (.bool a) = .returned (.bool b) := by rw [h]

/-! ### Plain -/
def tb (x : Int) : Bool := x == 9 || x == 10 || x == 13
def anyTB (xs : List Int) : Bool := xs.any tb
theorem anyTB_snoc (xs : List Int) (k : Nat) (h : k < xs.length) : anyTB (xs.take (k + 1)) = (anyTB (xs.take k) || tb (xs.getD k 0)) := by
  unfold anyTB
  rw [List.take_succ_eq_append_getElem h, List.any_append, List.getD_eq_getElem?_getD, List.getElem?_eq_getElem h]
  simp
theorem has_iff {y : Int} (xs : List Int) (v : UInt8) (hv : (v.toNat : Int) = y) (h : ∀ x ∈ xs, 0 ≤ x ∧ x < 256) : (0 ≤ Lib.indexByte (Lib.bytesOf xs) v) ↔ y ∈ xs := by
  have e := Lib.contains_iff_indexByte (Lib.bytesOf xs) v
  have e2 : (0 ≤ Lib.indexByte (Lib.bytesOf xs) v) ↔ v ∈ Lib.bytesOf xs := by
    rw [← List.contains_iff_mem, e, decide_eq_true_eq]
  rw [e2]
  unfold Lib.bytesOf
  rw [List.mem_map]
  constructor
  · rintro ⟨x, hx, rfl⟩
    obtain ⟨h0, h1⟩ := h x hx
    have : (UInt8.ofNat x.toNat).toNat = x.toNat := by rw [UInt8.toNat_ofNat']; omega
    have : x = y := by omega
    rwa [← this]
  · intro hy
    obtain ⟨h0, h1⟩ := h y hy
    refine ⟨y, hy, ?_⟩
    apply UInt8.toNat_inj.1
    rw [UInt8.toNat_ofNat']
    omega
theorem anyTB_eq (xs : List Int) (h : ∀ x ∈ xs, 0 ≤ x ∧ x < 256) : anyTB xs = (decide (0 ≤ Lib.indexByte (Lib.bytesOf xs) 10) || decide (0 ≤ Lib.indexByte (Lib.bytesOf xs) 9) || decide (0 ≤ Lib.indexByte (Lib.bytesOf xs) 13)) := by
  rw [Bool.eq_iff_iff]
  simp only [Bool.or_eq_true, decide_eq_true_eq]
  rw [has_iff (y := 10) xs 10 rfl h, has_iff (y := 9) xs 9 rfl h, has_iff (y := 13) xs 13 rfl h]
  unfold anyTB
  rw [List.any_eq_true]
  unfold tb
  constructor
  · rintro ⟨x, hx, ht⟩
    simp only [Bool.or_eq_true, beq_iff_eq] at ht
    rcases ht with (rfl | rfl) | rfl
    · exact .inl (.inr hx)
    · exact .inl (.inl hx)
    · exact .inr hx
  · rintro ((hx | hx) | hx)
    · exact ⟨10, hx, by simp⟩
    · exact ⟨9, hx, by simp⟩
    · exact ⟨13, hx, by simp⟩

/-! ### The walks -/
set_option maxHeartbeats 400000 in
theorem zz_any (a : Option Addr) (n c : Nat) (w : World) (hn : n ≤ 9223372036854775807) :
    Calls Try.prog 6 #[.slice a n c] w fun e w' => e = .returned (.bool (decide (n ≤ 1048576))) ∧ w' = w := by
  by_cases h : n ≤ 1048576
  · have h1 : (n : Int) ≤ 1048576 := by omega
    rw [decide_eq_true h]
    go_enter Try.func6, Try.ntmps6
    go_wp2
    go_ret
    exact ⟨rfl, rfl⟩
  · have h1 : (1048576 : Int) < (n : Int) := by omega
    rw [decide_eq_false h]
    go_enter Try.func6, Try.ntmps6
    go_wp2
    go_ret
    exact ⟨rfl, rfl⟩

set_option maxHeartbeats 400000 in
theorem tb_any (x : Int) (w : World) :
    Calls Try.prog 8 #[.int .u8 x] w fun e w' => e = .returned (.bool (tb x)) ∧ w' = w := by
  by_cases h9 : x = 9
  · subst h9
    go_enter Try.func8, Try.ntmps8
    go_wp2
    go_ret
    exact ⟨rfl, rfl⟩
  · have k9 : (x == 9) = false := by simpa using h9
    by_cases h10 : x = 10
    · subst h10
      go_enter Try.func8, Try.ntmps8
      go_wp2
      go_ret
      exact ⟨rfl, rfl⟩
    · have k10 : (x == 10) = false := by simpa using h10
      by_cases h13 : x = 13
      · subst h13
        go_enter Try.func8, Try.ntmps8
        go_wp2
        go_ret
        exact ⟨rfl, rfl⟩
      · have k13 : (x == 13) = false := by simpa using h13
        have H : Hid (tb x = false) := by show tb x = false; unfold tb; rw [k9, k10, k13]; rfl
        clear h9 h10 h13
        go_enter Try.func8, Try.ntmps8
        go_wp2
        go_ret
        exact ⟨ret_bool H.out.symm, rfl⟩

theorem info5 : (Try.prog.info? 5).map (fun i => (i.zero, i.size, i.bytes)) = some (some (Value.int IntKind.u8 0), 1, 1) := by kernel_rfl

set_option maxHeartbeats 400000 in
theorem clone_nil (w : World) : Calls Try.prog 7 #[.slice none 0 0] w fun e w' => e = .returned (.slice none 0 0) ∧ w' = w := by
  have hq := fun (W : World) (a : Option Addr) (n c : Nat) => Lib.run_eql_slice_nil (P := Try.prog) W 22 5 a n c 0 0 Try.underlying22
  go_enter Try.func7, Try.ntmps7
  go_wp2
  go_ret
  exact ⟨rfl, rfl⟩

def rowAt (xs : List Int) (k : Nat) : Nat → Value := fun j => if j < k then .int .u8 (xs.getD j 0) else .int .u8 0
theorem rowAt_zero (xs : List Int) : rowAt xs 0 = fun _ => .int .u8 0 := by funext j; simp [rowAt]
theorem rowAt_step (xs : List Int) (k j : Nat) : (if j = k then Value.int .u8 (xs.getD k 0) else rowAt xs k j) = rowAt xs (k + 1) j := by
  unfold rowAt
  by_cases hj : j = k
  · subst hj; rw [if_pos rfl, if_pos (by omega)]
  · rw [if_neg hj]
    by_cases hl : j < k
    · rw [if_pos hl, if_pos (by omega)]
    · rw [if_neg hl, if_neg (by omega)]

set_option maxHeartbeats 400000 in
theorem clone_some (b off n c : Nat) (sp : Option Nat) (xs : List Int) (w : World) (hn : n ≤ 1048576) (hsp : 0 < n → sp = none) (hb : 0 < n → b < w.heap.size)
    (hc : ∀ i, i < n → w.cell? ⟨b, off + i, none⟩ = some (.int .u8 (xs.getD i 0))) :
    Calls Try.prog 7 #[.slice (some ⟨b, off, sp⟩) n c] w fun e w' => e = .returned (.slice (some ⟨w.heap.size, 0, none⟩) n n) ∧ w'.rowIs w.heap.size 5 n (rowAt xs n) ∧ Below w.heap.size w w' := by
  have hq := fun (W : World) (a : Option Addr) (n c : Nat) => Lib.run_eql_slice_nil (P := Try.prog) W 22 5 a n c 0 0 Try.underlying22
  have hmk := fun w : World => run_make_row' (P := Try.prog) 22 5 (.int .u8 0) 1 Try.underlying22 info5 rfl .i64 .i64 n (by omega) (by omega) w
  have HC : Hid (∀ i, i < n → w.cell? ⟨b, off + i, none⟩ = some (.int .u8 (xs.getD i 0))) := hc
  have HSP : Hid (0 < n → sp = none) := hsp
  have HB : Hid (0 < n → b < w.heap.size) := hb
  clear hc hsp hb
  go_enter Try.func7, Try.ntmps7
  go_wp2
  go_loopw [4] (fun i wr => ∃ k : Nat, k ≤ n ∧ i = .int .i64 k ∧ Hid (wr.rowIs w.heap.size 5 n (rowAt xs k)) ∧ Hid (Below w.heap.size w wr)) (fun i _ => n - (intOf i).toNat)
  case atStart => exact ⟨0, Nat.zero_le _, rfl, by rw [rowAt_zero]; exact World.rowIs_made w _ _ _, (Below.refl _ _).alloc (Nat.le_refl _) _⟩
  case round =>
    obtain ⟨k, hk, rfl, hrow, hbel⟩ := hrel
    by_cases hlt : k < n
    · have hs := HSP.out (by omega)
      subst hs
      have hf := hrow.out.frozen k
      have hc := hrow.out.cell hlt
      have hcs := (hbel.out.cell (p := ⟨b, off + k, none⟩) (HB.out (by omega))).trans (HC.out k hlt)
      generalize hxk : xs.getD k 0 = x at *
      have HX : Hid (xs.getD k 0 = x) := hxk
      clear hxk
      go_wp2
      go_roundw
      case rel => exact ⟨k + 1, by omega, by go_num, (hrow.out.set k _).congr (fun j _ => by rw [← HX.out]; exact rowAt_step xs k j), hbel.out.setCell (Nat.le_refl _) _⟩
      case measure => simp [intOf]; omega
    · have hk2 : k = n := by omega
      subst hk2
      go_wp2
      go_ret
      exact ⟨rfl, hrow.out, hbel.out⟩

set_option maxHeartbeats 400000 in
theorem index_any (b n c : Nat) (xs : List Int) (cv : Int) (w : World) (hx : xs.length = n) (hc : ∀ i, i < n → w.cell? ⟨b, 0 + i, none⟩ = some (.int .u8 (xs.getD i 0))) :
    Calls Try.prog 18 #[.slice (some ⟨b, 0, none⟩) n c, .int .u8 cv] w fun e w' => e = .returned (.int .i64 (Lib.indexByte (Lib.bytesOf xs) cv.toNat.toUInt8)) ∧ w' = w := by
  have HX : Hid (xs.length = n) := hx
  have HC : Hid (∀ i, i < n → w.cell? ⟨b, 0 + i, none⟩ = some (.int .u8 (xs.getD i 0))) := hc
  clear hx hc
  go_enter Try.func18, Try.ntmps18
  go_wp2
  rw [run_callFunc_extern Try.func19 (by kernel_rfl) (by kernel_rfl) (by kernel_rfl) (e := Extern.BytealgIndexByte.indexByte) (by kernel_rfl), Lib.run_indexByteSlice w b 0 n c xs HX.out HC.out cv]
  simp only [Result.andThen]
  rw [Oper.upon_value]
  go_wp2
  go_ret
  exact ⟨rfl, rfl⟩

set_option maxHeartbeats 400000 in
theorem index_nil (cv : Int) (w : World) :
    Calls Try.prog 18 #[.slice none 0 0, .int .u8 cv] w fun e w' => e = .returned (.int .i64 (-1)) ∧ w' = w := by
  go_enter Try.func18, Try.ntmps18
  go_wp2
  rw [run_callFunc_extern Try.func19 (by kernel_rfl) (by kernel_rfl) (by kernel_rfl) (e := Extern.BytealgIndexByte.indexByte) (by kernel_rfl), Lib.run_indexByteNil w 0 0 cv]
  simp only [Result.andThen]
  rw [Oper.upon_value]
  go_wp2
  go_ret
  exact ⟨rfl, rfl⟩

set_option maxHeartbeats 400000 in
theorem has_of (v : Value) (p10 p9 p13 : Int) (w : World) (C10 : Hid (Calls Try.prog 18 #[v, .int .u8 10] w fun e w' => e = .returned (.int .i64 p10) ∧ w' = w))
    (C9 : Hid (Calls Try.prog 18 #[v, .int .u8 9] w fun e w' => e = .returned (.int .i64 p9) ∧ w' = w)) (C13 : Hid (Calls Try.prog 18 #[v, .int .u8 13] w fun e w' => e = .returned (.int .i64 p13) ∧ w' = w)) :
    Calls Try.prog 15 #[v] w fun e w' => e = .returned (.bool (decide (0 ≤ p10) || decide (0 ≤ p9) || decide (0 ≤ p13))) ∧ w' = w := by
  by_cases h10 : 0 ≤ p10
  · have d10 : decide (0 ≤ p10) = true := decide_eq_true h10
    rw [d10]
    go_enter Try.func15, Try.ntmps15
    go_wp2_with fail
    refine C10.out.mono ?_
    rintro e w' ⟨rfl, rfl⟩
    go_wp2_with fail
    go_ret
    exact ⟨ret_bool (by simp), rfl⟩
  · have d10 : decide (0 ≤ p10) = false := decide_eq_false h10
    rw [d10]
    by_cases h9 : 0 ≤ p9
    · have d9 : decide (0 ≤ p9) = true := decide_eq_true h9
      rw [d9]
      go_enter Try.func15, Try.ntmps15
      go_wp2_with fail
      refine C10.out.mono ?_
      rintro e w' ⟨rfl, rfl⟩
      go_wp2_with fail
      refine C9.out.mono ?_
      rintro e w' ⟨rfl, rfl⟩
      go_wp2_with fail
      go_ret
      exact ⟨ret_bool (by simp), rfl⟩
    · have d9 : decide (0 ≤ p9) = false := decide_eq_false h9
      rw [d9]
      go_enter Try.func15, Try.ntmps15
      go_wp2_with fail
      refine C10.out.mono ?_
      rintro e w' ⟨rfl, rfl⟩
      go_wp2_with fail
      refine C9.out.mono ?_
      rintro e w' ⟨rfl, rfl⟩
      go_wp2_with fail
      refine C13.out.mono ?_
      rintro e w' ⟨rfl, rfl⟩
      go_wp2_with fail
      go_ret
      exact ⟨ret_bool (by simp), rfl⟩

end Go.Proofs.Qxb6603681a
