/-
  The walks of the leaf functions: strings.IndexByte, isAll, isAlpha, isDigit, isExtlang, isScript, isRegion, caseLetter, zzBytes, subtagAt.
-/
import Derived.Test.Qxb6603176aRows
import Derived.Test.Qxb6603176aPlain
import Derived.WalkKit
import Derived.WalkSpells
import Derived.WalkLawsBesides
import Derived.Lib.Walk
import Derived.Lib.Bytealg
import Derived.Lib.Strings
import Derived.Laws.BitsAllLaws
namespace Go.Proofs.Qxb6603176a
open Go.RowKit

theorem ret_bool {a b : Bool} (h : a = b) : Ending.returned (.bool a) = .returned (.bool b) := by rw [h]
theorem ret_int {k : IntKind} {a b : Int} (h : a = b) : Ending.returned (.int k a) = .returned (.int k b) := by rw [h]
theorem ret_str {a b : ByteArray} (h : a = b) : Ending.returned (.string a) = .returned (.string b) := by rw [h]

set_option maxHeartbeats 400000 in
theorem zz_any (s : ByteArray) (w : World) (hs : s.size ≤ maxLen) :
    Calls Try.prog 21 #[.string s] w fun e w' => e = .returned (.bool (decide (s.size ≤ 1048576))) ∧ w' = w := by
  unfold maxLen at hs
  by_cases h : s.size ≤ 1048576
  · have h1 : (s.size : Int) ≤ 1048576 := by omega
    rw [decide_eq_true h]
    go_enter Try.func21, Try.ntmps21
    go_wp2
    go_ret
    exact ⟨rfl, rfl⟩
  · have h1 : (1048576 : Int) < (s.size : Int) := by omega
    rw [decide_eq_false h]
    go_enter Try.func21, Try.ntmps21
    go_wp2
    go_ret
    exact ⟨rfl, rfl⟩

set_option maxHeartbeats 400000 in
theorem indexByte_lite (s : ByteArray) (c : Int) (w : World) :
    Calls Try.prog 43 #[.string s, .int .u8 c] w fun e w' => e = .returned (.int .i64 (Lib.indexByte s.data.toList c.toNat.toUInt8)) ∧ w' = w := by
  go_enter Try.func43, Try.ntmps43
  go_wp2
  rw [run_callFunc_extern Try.func46 (by kernel_rfl) (by kernel_rfl) (by kernel_rfl) (e := Extern.BytealgIndexByte.indexByte) (by kernel_rfl), Lib.run_indexByteString]
  simp only [Result.andThen]
  rw [Oper.upon_value]
  go_wp2
  go_ret
  exact ⟨rfl, rfl⟩

set_option maxHeartbeats 400000 in
theorem indexByte_any (s : ByteArray) (c : Int) (w : World) :
    Calls Try.prog 37 #[.string s, .int .u8 c] w fun e w' => e = .returned (.int .i64 (Lib.indexByte s.data.toList c.toNat.toUInt8)) ∧ w' = w := by
  go_enter Try.func37, Try.ntmps37
  go_wp2_with (go_at_call 43; refine (indexByte_lite _ _ _).mono ?_; rintro e w' ⟨rfl, rfl⟩)
  go_ret
  exact ⟨rfl, rfl⟩

theorem forall_u8 {p : UInt8 → Prop} (h : ∀ n : Fin 256, p (UInt8.ofNat n.val)) : ∀ c, p c := fun c => by
  have := h ⟨c.toNat, c.toNat_lt⟩
  simpa using this
theorem or_class : ∀ c : UInt8, (Pl.isL c = true → 97 ≤ (c.toNat ||| 32) ∧ (c.toNat ||| 32) ≤ 122 ∧ 57 < c.toNat) ∧ (Pl.isL c = false → (c.toNat ||| 32) < 97 ∨ 122 < (c.toNat ||| 32)) ∧ (Pl.isD c = true → 48 ≤ c.toNat ∧ c.toNat ≤ 57) ∧ (Pl.isD c = false → c.toNat < 48 ∨ 57 < c.toNat) := by
  apply forall_u8; decide +kernel
theorem all_snoc (s : ByteArray) (k : Nat) (h : k < s.size) (a d : Bool) (hh : Pl.isAll (s.data.toList.take k) a d = true) : Pl.isAll (s.data.toList.take (k + 1)) a d = (a && Pl.isL s[k] || d && Pl.isD s[k]) := by
  have e : s.data.toList.take (k + 1) = s.data.toList.take k ++ [s[k]] := by
    rw [List.take_succ_eq_append_getElem (by simpa using h)]; rfl
  rw [e]; unfold Pl.isAll at hh ⊢; rw [List.all_append, hh]; simp
theorem all_take (l : List UInt8) (k : Nat) (a d : Bool) (h : Pl.isAll (l.take k) a d = false) : Pl.isAll l a d = false := by
  unfold Pl.isAll at h ⊢
  rw [← List.take_append_drop k l, List.all_append, h]; simp

set_option maxHeartbeats 400000 in
theorem isAll_tf (s : ByteArray) (w : World) (hs : s.size ≤ maxLen) :
    Calls Try.prog 44 #[.string s, .bool true, .bool false] w fun e w' => e = .returned (.bool (Pl.isAll s.data.toList true false)) ∧ w' = w := by
  unfold maxLen at hs
  go_enter Try.func44, Try.ntmps44
  go_wp2
  go_loop [7] (fun i => ∃ k : Nat, k ≤ s.size ∧ i = .int .i64 k ∧ Hid (Pl.isAll (s.data.toList.take k) true false = true)) (fun i => s.size - (intOf i).toNat)
  case atStart => exact ⟨0, Nat.zero_le _, rfl, rfl⟩
  case round =>
    obtain ⟨k, hk, rfl, hh⟩ := hrel
    by_cases hlt : k < s.size
    · have hor : bits .or .u8 (s[k].toNat : Int) 32 = ((s[k].toNat ||| 32 : Nat) : Int) := u8_or_nat _ 32 (by have := s[k].toNat_lt; omega) (by omega)
      have hcl := or_class s[k]
      have HS := all_snoc s k hlt true false hh.out
      have HS' : Hid (Pl.isAll (s.data.toList.take (k + 1)) true false = (true && Pl.isL s[k] || false && Pl.isD s[k])) := HS
      clear HS hh
      generalize hy : s[k].toNat ||| 32 = y at *
      clear hy
      by_cases hL : Pl.isL s[k] = true
      · obtain ⟨h1, h2, h3⟩ := hcl.1 hL
        have HL : Hid (Pl.isL s[k] = true) := hL
        clear hcl hL
        go_wp2
        go_round
        case rel => exact ⟨k + 1, by omega, by go_num, by have := HS'.out; rw [HL.out] at this; exact this⟩
        case measure => simp [intOf]; omega
      · have hL' : Pl.isL s[k] = false := by simpa using hL
        have h1 := hcl.2.1 hL'
        have HL : Hid (Pl.isL s[k] = false) := hL'
        clear hcl hL hL'
        have h2 : s[k].toNat < 48 ∨ 48 ≤ s[k].toNat := by omega
        rcases h1 with h1 | h1
        · rcases h2 with h2 | h2
          all_goals
            go_wp2
            go_ret
            exact ⟨ret_bool (all_take _ (k + 1) _ _ (by rw [HS'.out, HL.out]; rfl)).symm, rfl⟩
        · have hd : decide ((y : Int) ≤ 122) = false := by simp; omega
          rcases h2 with h2 | h2
          all_goals
            go_wp2
            go_ret
            exact ⟨ret_bool (all_take _ (k + 1) _ _ (by rw [HS'.out, HL.out]; rfl)).symm, rfl⟩
    · go_wp2
      go_ret
      exact ⟨ret_bool (by have hh' := hh.out; rw [List.take_of_length_le (by simp; omega)] at hh'; exact hh'.symm), rfl⟩

set_option maxHeartbeats 400000 in
theorem isAll_ft (s : ByteArray) (w : World) (hs : s.size ≤ maxLen) :
    Calls Try.prog 44 #[.string s, .bool false, .bool true] w fun e w' => e = .returned (.bool (Pl.isAll s.data.toList false true)) ∧ w' = w := by
  unfold maxLen at hs
  go_enter Try.func44, Try.ntmps44
  go_wp2
  go_loop [7] (fun i => ∃ k : Nat, k ≤ s.size ∧ i = .int .i64 k ∧ Hid (Pl.isAll (s.data.toList.take k) false true = true)) (fun i => s.size - (intOf i).toNat)
  case atStart => exact ⟨0, Nat.zero_le _, rfl, rfl⟩
  case round =>
    obtain ⟨k, hk, rfl, hh⟩ := hrel
    by_cases hlt : k < s.size
    · have hor : bits .or .u8 (s[k].toNat : Int) 32 = ((s[k].toNat ||| 32 : Nat) : Int) := u8_or_nat _ 32 (by have := s[k].toNat_lt; omega) (by omega)
      have hcl := or_class s[k]
      have HS := all_snoc s k hlt false true hh.out
      have HS' : Hid (Pl.isAll (s.data.toList.take (k + 1)) false true = (false && Pl.isL s[k] || true && Pl.isD s[k])) := HS
      clear HS hh
      generalize hy : s[k].toNat ||| 32 = y at *
      clear hy
      have hy2 : y < 97 ∨ 97 ≤ y := by omega
      by_cases hL : Pl.isD s[k] = true
      · obtain ⟨h1, h2⟩ := hcl.2.2.1 hL
        have HL : Hid (Pl.isD s[k] = true) := hL
        have hd : decide ((s[k].toNat : Int) ≤ 57) = true := by simp; omega
        clear hcl hL
        rcases hy2 with hy2 | hy2
        all_goals
          go_wp2
          go_round
          case rel => exact ⟨k + 1, by omega, by go_num, by have := HS'.out; rw [HL.out] at this; exact this⟩
          case measure => simp [intOf]; omega
      · have hL' : Pl.isD s[k] = false := by simpa using hL
        have h1 := hcl.2.2.2 hL'
        have HL : Hid (Pl.isD s[k] = false) := hL'
        clear hcl hL hL'
        rcases h1 with h1 | h1
        · rcases hy2 with hy2 | hy2
          all_goals
            go_wp2
            go_ret
            exact ⟨ret_bool (all_take _ (k + 1) _ _ (by rw [HS'.out, HL.out]; rfl)).symm, rfl⟩
        · have hd : decide ((s[k].toNat : Int) ≤ 57) = false := by simp; omega
          rcases hy2 with hy2 | hy2
          all_goals
            go_wp2
            go_ret
            exact ⟨ret_bool (all_take _ (k + 1) _ _ (by rw [HS'.out, HL.out]; rfl)).symm, rfl⟩
    · go_wp2
      go_ret
      exact ⟨ret_bool (by have hh' := hh.out; rw [List.take_of_length_le (by simp; omega)] at hh'; exact hh'.symm), rfl⟩

end Go.Proofs.Qxb6603176a
