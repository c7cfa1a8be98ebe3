/-
  The walks of the library's functions on the road: stringslite.IndexByte, Index (at one space), Cut (at one space), HasPrefix (at one dash).
-/
import Derived.Test.Qxb6604082aRows
import Derived.WalkKit
import Derived.WalkSpells
import Derived.WalkLawsBesides
import Derived.Lib.Walk
import Derived.Lib.Bytealg
import Derived.Lib.Strings
import Derived.Lib.IndexLaws
import Derived.Lib.IndexBytes
import Derived.Deep.QuietTactic
import Derived.BigQuiet
namespace Go.Proofs.Qxb6604082a
open Go.RowKit
set_option linter.unusedVariables false

theorem ret_bool {a b : Bool} (h : a = b) : Ending.returned (.bool a) = .returned (.bool b) := by rw [h]
theorem len_toList (s : ByteArray) : s.data.toList.length = s.size := (Lib.size_eq s).symm

set_option maxHeartbeats 400000 in
theorem zz_any (s : ByteArray) (w : World) (hs : s.size ≤ maxLen) :
    Calls Try.prog 5 #[.string s] w fun e w' => e = .returned (.bool (decide (s.size ≤ 1048576))) ∧ w' = w := by
  unfold maxLen at hs
  by_cases h : s.size ≤ 1048576
  · have h1 : (s.size : Int) ≤ 1048576 := by omega
    rw [decide_eq_true h]
    go_enter Try.func5, Try.ntmps5
    go_wp2
    go_ret
    exact ⟨rfl, rfl⟩
  · have h1 : (1048576 : Int) < (s.size : Int) := by omega
    rw [decide_eq_false h]
    go_enter Try.func5, Try.ntmps5
    go_wp2
    go_ret
    exact ⟨rfl, rfl⟩

set_option maxHeartbeats 400000 in
theorem indexByte_lite (s : ByteArray) (c : Int) (w : World) :
    Calls Try.prog 16 #[.string s, .int .u8 c] w fun e w' => e = .returned (.int .i64 (Lib.indexByte s.data.toList c.toNat.toUInt8)) ∧ w' = w := by
  go_enter Try.func16, Try.ntmps16
  go_wp2
  rw [run_callFunc_extern Try.func20 (by kernel_rfl) (by kernel_rfl) (by kernel_rfl) (e := Extern.BytealgIndexByte.indexByte) (by kernel_rfl), Lib.run_indexByteString]
  simp only [Result.andThen]
  rw [Oper.upon_value]
  go_wp2
  go_ret
  exact ⟨rfl, rfl⟩

set_option maxHeartbeats 400000 in
theorem index_sp (s : ByteArray) (w : World) :
    Calls Try.prog 15 #[.string s, .string ⟨#[32]⟩] w fun e w' => e = .returned (.int .i64 (Lib.indexByte s.data.toList 32)) ∧ w' = w := by
  cases h : [32] == s.toList
  · go_enter Try.func15, Try.ntmps15
    go_wp2_with fail
    refine (indexByte_lite s _ _).mono ?_
    rintro e w' ⟨rfl, rfl⟩
    go_wp2_with fail
    go_ret
    exact ⟨rfl, rfl⟩
  · have hl : s.data.toList = [32] := by rw [← Lib.toList_data]; exact (beq_iff_eq.1 h).symm
    rw [hl, show Lib.indexByte [32] 32 = 0 from rfl]
    clear hl
    go_enter Try.func15, Try.ntmps15
    go_wp2_with fail
    go_ret
    exact ⟨rfl, rfl⟩

set_option maxHeartbeats 400000 in
theorem hasPrefix_lite (s : ByteArray) (b : Bool) (w : World) (hs : s.size ≤ 1048576) (hb : (decide (1 ≤ s.size) && ((s.extract 0 1).toList == [45])) = b) :
    Calls Try.prog 13 #[.string s, .string ⟨#[45]⟩] w fun e w' => e = .returned (.bool b) ∧ w' = w := by
  by_cases h : 1 ≤ s.size
  · have HB : Hid (((s.extract 0 1).toList == [45]) = b) := by show _ = _; rw [← hb, decide_eq_true h]; rfl
    clear hb
    go_enter Try.func13, Try.ntmps13
    go_wp2
    go_ret
    exact ⟨ret_bool HB.out, rfl⟩
  · obtain rfl : b = false := by rw [← hb, decide_eq_false h]; rfl
    have hd : decide ((1 : Int) ≤ (s.size : Int)) = false := by simp; omega
    clear hb
    go_enter Try.func13, Try.ntmps13
    go_wp2
    go_ret
    exact ⟨rfl, rfl⟩

/-- Does it begin with a dash? -/
def dashed : List UInt8 → Bool
  | c :: _ => c == 45
  | [] => false
theorem dashed_eq (s : ByteArray) : (decide (1 ≤ s.size) && ((s.extract 0 1).toList == [45])) = dashed s.data.toList := by
  rw [Lib.toList_data, Lib.extract_data, ← len_toList]
  cases s.data.toList with
  | nil => rfl
  | cons c l =>
    simp only [List.drop_zero, Nat.sub_zero, List.take_succ_cons, List.take_zero, dashed, List.length_cons]
    rw [decide_eq_true (by omega), Bool.true_and, Bool.eq_iff_iff]
    simp

set_option maxHeartbeats 400000 in
theorem hasPrefix_any (s : ByteArray) (w : World) (hs : s.size ≤ 1048576) :
    Calls Try.prog 11 #[.string s, .string ⟨#[45]⟩] w fun e w' => e = .returned (.bool (dashed s.data.toList)) ∧ w' = w := by
  go_enter Try.func11, Try.ntmps11
  go_wp2_with fail
  refine (hasPrefix_lite s _ _ hs (dashed_eq s)).mono ?_
  rintro e w' ⟨rfl, rfl⟩
  go_wp2_with fail
  go_ret
  exact ⟨rfl, rfl⟩

set_option maxHeartbeats 1000000 in
theorem cut_at (s : ByteArray) (n : Nat) (w : World) (hs : s.size ≤ 1048576) (hn : n < s.size) (hi : Lib.indexByte s.data.toList 32 = (n : Int)) :
    Calls Try.prog 14 #[.string s, .string ⟨#[32]⟩] w fun e w' => e = .returned (.tuple #[.string (s.extract 0 n), .string (s.extract (n + 1) s.size), .bool true]) ∧ ∃ k, w' = w.drewN k := by
  have C : Hid (∀ W, Calls Try.prog 15 #[.string s, .string ⟨#[32]⟩] W fun e w' => e = .returned (.int .i64 (n : Int)) ∧ w' = W) := fun W => by
    have := index_sp s W
    rw [hi] at this
    exact this
  clear hi
  go_enter Try.func14, Try.ntmps14
  go_wp2_with fail
  refine (C.out _).mono ?_
  rintro e w' ⟨rfl, rfl⟩
  go_wp2_with fail
  go_quiet (fail)
  go_wp2
  go_ret3
  exact ⟨rfl, _, rfl⟩

set_option maxHeartbeats 1000000 in
theorem cut_no (s : ByteArray) (w : World) (hs : s.size ≤ 1048576) (hi : Lib.indexByte s.data.toList 32 = -1) :
    Calls Try.prog 14 #[.string s, .string ⟨#[32]⟩] w fun e w' => e = .returned (.tuple #[.string s, .string ⟨#[]⟩, .bool false]) ∧ w' = w := by
  have C : Hid (∀ W, Calls Try.prog 15 #[.string s, .string ⟨#[32]⟩] W fun e w' => e = .returned (.int .i64 (-1)) ∧ w' = W) := fun W => by
    have := index_sp s W
    rw [hi] at this
    exact this
  clear hi
  go_enter Try.func14, Try.ntmps14
  go_wp2_with fail
  refine (C.out _).mono ?_
  rintro e w' ⟨rfl, rfl⟩
  go_wp2_with fail
  go_ret3
  exact ⟨rfl, rfl⟩

/-- The bytes before the first space; what lies behind it. -/
def upto (l : List UInt8) : List UInt8 := l.takeWhile fun b => !(b == 32)
def after (l : List UInt8) : List UInt8 := l.drop ((upto l).length + 1)
theorem upto_idx : ∀ (l : List UInt8), (Lib.indexByte l 32 = -1 ∧ upto l = l) ∨ (Lib.indexByte l 32 = ((upto l).length : Int) ∧ (upto l).length < l.length)
  | [] => .inl ⟨rfl, rfl⟩
  | b :: l => by
    unfold Lib.indexByte upto
    rw [List.takeWhile_cons]
    cases hb : b == 32
    · simp only [Bool.not_false, if_true]
      rcases upto_idx l with ⟨h1, h2⟩ | ⟨h1, h2⟩
      · left; unfold upto at h2; rw [h1, h2]; simp
      · right
        unfold upto at h1 h2
        rw [h1]
        refine ⟨?_, by simpa using h2⟩
        rw [if_neg (by simp), if_neg (by simp)]; simp
    · right; simp

/-- What Cut gives. -/
def CutEnds (s : ByteArray) (e : Ending) : Prop := ∃ (A R : ByteArray) (b : Bool), e = .returned (.tuple #[.string A, .string R, .bool b]) ∧ R.data.toList = after s.data.toList

theorem cut_lite (s : ByteArray) (w : World) (hs : s.size ≤ 1048576) :
    Calls Try.prog 14 #[.string s, .string ⟨#[32]⟩] w fun e w' => CutEnds s e ∧ ∃ k, w' = w.drewN k := by
  rcases upto_idx s.data.toList with ⟨h1, h2⟩ | ⟨h1, h2⟩
  · refine (cut_no s w hs h1).mono ?_
    rintro e w' ⟨rfl, rfl⟩
    refine ⟨⟨_, _, _, rfl, ?_⟩, 0, rfl⟩
    unfold after; rw [h2, List.drop_of_length_le (by omega)]
  · rw [len_toList] at h2
    refine (cut_at s _ w hs h2 h1).mono ?_
    rintro e w' ⟨rfl, hk⟩
    exact ⟨⟨_, _, _, rfl, by rw [Lib.extract_to_end]; rfl⟩, hk⟩

set_option maxHeartbeats 400000 in
theorem cut_any (s : ByteArray) (w : World) (hs : s.size ≤ 1048576) :
    Calls Try.prog 12 #[.string s, .string ⟨#[32]⟩] w fun e w' => CutEnds s e ∧ ∃ k, w' = w.drewN k := by
  go_enter Try.func12, Try.ntmps12
  go_wp2_with fail
  refine (cut_lite s _ hs).mono ?_
  rintro e w' ⟨⟨A, R, b, rfl, hR⟩, k, hk⟩
  have HR : Hid (R.data.toList = after s.data.toList) := hR
  have HK : Hid (w' = w.drewN k) := hk
  clear hR hk
  go_wp2_with fail
  go_ret3
  exact ⟨⟨A, R, b, rfl, HR.out⟩, k, HK.out⟩

end Go.Proofs.Qxb6604082a
