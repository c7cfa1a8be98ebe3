/-
  The walks that the seat's laws share: strings.IndexByte, wordEnd, ZZwordEnd, isBlankB1, zzBytes, isKeyword.
-/
import Derived.Test.Qxb6603737aRows
import Derived.Test.Qxb6603737aPlain
import Derived.WalkKit
import Derived.WalkSpells
import Derived.WalkLawsBesides
import Derived.Lib.Walk
import Derived.Lib.Bytealg
import Derived.Lib.Strings
namespace Go.Proofs.Qxb6603737a
open Go.RowKit
set_option linter.unusedVariables false

theorem ret_bool {a b : Bool} (h : a = b) : Ending.returned (.bool a) = .returned (.bool b) := by rw [h]
theorem ret_int {k : IntKind} {a b : Int} (h : a = b) : Ending.returned (.int k a) = .returned (.int k b) := by rw [h]
theorem len_toList (s : ByteArray) : s.data.toList.length = s.size := (Lib.size_eq s).symm

set_option maxHeartbeats 400000 in
theorem zz3_any (s : ByteArray) (w : World) (hs : s.size ≤ maxLen) :
    Calls Try.prog 7 #[.string s] w fun e w' => e = .returned (.bool (decide (s.size ≤ 1048576))) ∧ w' = w := by
  unfold maxLen at hs
  by_cases h : s.size ≤ 1048576
  · have h1 : (s.size : Int) ≤ 1048576 := by omega
    rw [decide_eq_true h]
    go_enter Try.func7, Try.ntmps7
    go_wp2
    go_ret
    exact ⟨rfl, rfl⟩
  · have h1 : (1048576 : Int) < (s.size : Int) := by omega
    rw [decide_eq_false h]
    go_enter Try.func7, Try.ntmps7
    go_wp2
    go_ret
    exact ⟨rfl, rfl⟩

set_option maxHeartbeats 400000 in
theorem zz4_any (s : ByteArray) (w : World) (hs : s.size ≤ maxLen) :
    Calls Try.prog 10 #[.string s] w fun e w' => e = .returned (.bool (decide (s.size ≤ 1048576))) ∧ w' = w := by
  unfold maxLen at hs
  by_cases h : s.size ≤ 1048576
  · have h1 : (s.size : Int) ≤ 1048576 := by omega
    rw [decide_eq_true h]
    go_enter Try.func10, Try.ntmps10
    go_wp2
    go_ret
    exact ⟨rfl, rfl⟩
  · have h1 : (1048576 : Int) < (s.size : Int) := by omega
    rw [decide_eq_false h]
    go_enter Try.func10, Try.ntmps10
    go_wp2
    go_ret
    exact ⟨rfl, rfl⟩

set_option maxHeartbeats 400000 in
theorem indexByte_lite (s : ByteArray) (c : Int) (w : World) :
    Calls Try.prog 26 #[.string s, .int .u8 c] w fun e w' => e = .returned (.int .i64 (Lib.indexByte s.data.toList c.toNat.toUInt8)) ∧ w' = w := by
  go_enter Try.func26, Try.ntmps26
  go_wp2
  rw [run_callFunc_extern Try.func29 (by kernel_rfl) (by kernel_rfl) (by kernel_rfl) (e := Extern.BytealgIndexByte.indexByte) (by kernel_rfl), Lib.run_indexByteString]
  simp only [Result.andThen]
  rw [Oper.upon_value]
  go_wp2
  go_ret
  exact ⟨rfl, rfl⟩

set_option maxHeartbeats 400000 in
theorem indexByte_any (s : ByteArray) (c : Int) (w : World) :
    Calls Try.prog 23 #[.string s, .int .u8 c] w fun e w' => e = .returned (.int .i64 (Lib.indexByte s.data.toList c.toNat.toUInt8)) ∧ w' = w := by
  go_enter Try.func23, Try.ntmps23
  go_wp2_with (go_at_call 26; refine (indexByte_lite _ _ _).mono ?_; rintro e w' ⟨rfl, rfl⟩)
  go_ret
  exact ⟨rfl, rfl⟩

set_option maxHeartbeats 400000 in
theorem wordEnd_of (s : ByteArray) (w : World) (N p q : Int) (n : Nat) (hs : s.size ≤ 9223372036854775807) (hn : n ≤ s.size) (hp : (p = -1 ∧ s.size = n) ∨ (p = (n : Int)))
    (C1 : Hid (∀ W, Calls Try.prog 23 #[.string s, .int .u8 32] W fun e w' => e = .returned (.int .i64 p) ∧ w' = W))
    (C2 : Hid (∀ W, Calls Try.prog 23 #[.string (s.extract 0 n), .int .u8 9] W fun e w' => e = .returned (.int .i64 q) ∧ w' = W))
    (hq : (q = -1 ∧ N = (n : Int)) ∨ (0 ≤ q ∧ N = q)) :
    Calls Try.prog 17 #[.string s] w fun e w' => e = .returned (.int .i64 N) ∧ w' = w := by
  rcases hp with ⟨rfl, hsn⟩ | rfl
  · rcases hq with ⟨rfl, rfl⟩ | ⟨hq, rfl⟩
    all_goals
      go_enter Try.func17, Try.ntmps17
      go_wp2_with fail
      refine (C1.out _).mono ?_
      rintro e w' ⟨rfl, rfl⟩
      go_wp2_with fail
      refine (C2.out _).mono ?_
      rintro e w' ⟨rfl, rfl⟩
      go_wp2_with fail
      go_ret
      exact ⟨rfl, rfl⟩
  · rcases hq with ⟨rfl, rfl⟩ | ⟨hq, rfl⟩
    all_goals
      go_enter Try.func17, Try.ntmps17
      go_wp2_with fail
      refine (C1.out _).mono ?_
      rintro e w' ⟨rfl, rfl⟩
      go_wp2_with fail
      refine (C2.out _).mono ?_
      rintro e w' ⟨rfl, rfl⟩
      go_wp2_with fail
      go_ret
      exact ⟨rfl, rfl⟩

theorem wordEnd_any (s : ByteArray) (w : World) (hs : s.size ≤ maxLen) :
    Calls Try.prog 17 #[.string s] w fun e w' => e = .returned (.int .i64 (Pl.we s.data.toList : Int)) ∧ w' = w := by
  unfold maxLen at hs
  have h1 := Pl.upto_idx 32 s.data.toList
  have hle := Pl.upto_le 32 s.data.toList
  rw [len_toList] at h1 hle
  have htake : (s.extract 0 (Pl.upto 32 s.data.toList).length).data.toList = Pl.upto 32 s.data.toList := by
    rw [Lib.extract_data, List.drop_zero, Nat.sub_zero]; exact (Pl.upto_take 32 _).symm
  have h2 := Pl.upto_idx 9 (Pl.upto 32 s.data.toList)
  have hwe := Pl.we_eq s.data.toList
  refine wordEnd_of s w _ (Lib.indexByte s.data.toList 32) (Lib.indexByte (Pl.upto 32 s.data.toList) 9) (Pl.upto 32 s.data.toList).length (by omega) hle ?_ (fun W => indexByte_any s 32 W) (fun W => ?_) ?_
  · rcases h1 with ⟨a, b⟩ | ⟨a, b⟩
    · exact .inl ⟨a, by rw [b, len_toList]⟩
    · exact .inr a
  · have := indexByte_any (s.extract 0 (Pl.upto 32 s.data.toList).length) 9 W
    rw [htake] at this
    exact this
  · rcases h2 with ⟨a, b⟩ | ⟨a, b⟩
    · exact .inl ⟨a, by rw [hwe, b]⟩
    · exact .inr ⟨by omega, by rw [hwe, a]⟩

set_option maxHeartbeats 400000 in
theorem zzwe_any (s : ByteArray) (w : World) (hs : s.size ≤ maxLen) :
    Calls Try.prog 9 #[.string s] w fun e w' => e = .returned (.int .i64 (Pl.we s.data.toList : Int)) ∧ w' = w := by
  go_enter Try.func9, Try.ntmps9
  go_wp2_with (go_at_call 17; refine (wordEnd_any _ _ hs).mono ?_; rintro e w' ⟨rfl, rfl⟩)
  go_ret
  exact ⟨rfl, rfl⟩

theorem forall_u8 {p : UInt8 → Prop} (h : ∀ n : Fin 256, p (UInt8.ofNat n.val)) : ∀ c, p c := fun c => by
  have := h ⟨c.toNat, c.toNat_lt⟩
  simpa using this
theorem blank_class : ∀ c : UInt8, (Pl.blank c = true → c = 32 ∨ c = 9) ∧ (Pl.blank c = false → ((c.toNat : Int) == 32) = false ∧ ((c.toNat : Int) == 9) = false) := by
  apply forall_u8; decide +kernel

set_option maxHeartbeats 400000 in
theorem blank_any (c : UInt8) (w : World) :
    Calls Try.prog 8 #[.int .u8 (c.toNat : Int)] w fun e w' => e = .returned (.bool (Pl.blank c)) ∧ w' = w := by
  cases h : Pl.blank c
  · obtain ⟨h1, h2⟩ := (blank_class c).2 h
    clear h
    go_enter Try.func8, Try.ntmps8
    go_wp2
    go_ret
    exact ⟨rfl, rfl⟩
  · rcases (blank_class c).1 h with rfl | rfl
    · have h1 : (((32 : UInt8).toNat : Int) == 32) = true := rfl
      clear h
      go_enter Try.func8, Try.ntmps8
      go_wp2
      go_ret
      exact ⟨rfl, rfl⟩
    · have h1 : (((9 : UInt8).toNat : Int) == 32) = false := rfl
      have h2 : (((9 : UInt8).toNat : Int) == 9) = true := rfl
      clear h
      go_enter Try.func8, Try.ntmps8
      go_wp2
      go_ret
      exact ⟨rfl, rfl⟩

end Go.Proofs.Qxb6603737a
