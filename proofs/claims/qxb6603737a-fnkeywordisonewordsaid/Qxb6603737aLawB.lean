/-
  The walks of isKeyword, ZZisKeyword and FnKeywordIsOneWord.
-/
import Derived.Test.Qxb6603737aWalk
namespace Go.Proofs.Qxb6603737a
open Go.RowKit
set_option linter.unusedVariables false

theorem kw_class : ∀ c : UInt8, ((97 ≤ c.toNat ∧ c.toNat ≤ 122) ∨ (65 ≤ c.toNat ∧ c.toNat ≤ 90) ∨ (48 ≤ c.toNat ∧ c.toNat ≤ 57) ∨ c.toNat = 45) → Pl.blank c = false := by
  apply forall_u8; decide +kernel
theorem take_snoc (s : ByteArray) (k : Nat) (h : k < s.size) : s.data.toList.take (k + 1) = s.data.toList.take k ++ [s[k]] := by
  rw [List.take_succ_eq_append_getElem (by rw [len_toList]; exact h)]; rfl
theorem nob_snoc (s : ByteArray) (k : Nat) (h : k < s.size) (hh : ∀ c ∈ s.data.toList.take k, Pl.blank c = false) (hb : Pl.blank s[k] = false) : ∀ c ∈ s.data.toList.take (k + 1), Pl.blank c = false := by
  rw [take_snoc s k h]
  intro c hc
  rw [List.mem_append] at hc
  rcases hc with hc | hc
  · exact hh c hc
  · simp at hc; rw [hc]; exact hb

/-- What isKeyword gives: a bool; true only where no byte is a blank. -/
def KwEnds (s : ByteArray) (e : Ending) : Prop := ∃ r : Bool, e = .returned (.bool r) ∧ (r = true → ∀ c ∈ s.data.toList, Pl.blank c = false)
theorem kw_no {s : ByteArray} {e : Ending} (h : e = .returned (.bool false)) : KwEnds s e := ⟨false, h, fun h => by cases h⟩
theorem kw_yes {s : ByteArray} {e : Ending} (h : e = .returned (.bool true)) (hb : ∀ c ∈ s.data.toList, Pl.blank c = false) : KwEnds s e := ⟨true, h, fun _ => hb⟩

set_option maxHeartbeats 2000000 in
theorem kw_any (s : ByteArray) (w : World) (hs : s.size ≤ 1048576) :
    Calls Try.prog 18 #[.string s] w fun e w' => KwEnds s e ∧ w' = w := by
  by_cases h0 : s.size = 0
  · obtain rfl : s = ⟨#[]⟩ := by
      have := len_toList s
      apply ByteArray.ext
      apply Array.toList_inj.1
      rw [List.eq_nil_of_length_eq_zero (this.trans h0)]
    go_enter Try.func18, Try.ntmps18
    go_wp2
    go_ret
    exact ⟨kw_no rfl, rfl⟩
  · have he : (s.toList.isEmpty) = false := by
      rw [List.isEmpty_eq_false_iff]
      intro e
      have := congrArg List.length e
      rw [Lib.toList_data, len_toList] at this
      exact h0 (by simpa using this)
    have h1 : 0 < s.size := by omega
    clear h0
    by_cases h45 : s[0].toNat = 45
    · have k45 : ((s[0].toNat : Int) == 45) = true := by rw [h45]; rfl
      clear h45
      go_enter Try.func18, Try.ntmps18
      go_wp2
      go_ret
      exact ⟨kw_no rfl, rfl⟩
    · have k45 : ((s[0].toNat : Int) == 45) = false := by rw [beq_eq_false_iff_ne]; omega
      clear h45
      go_enter Try.func18, Try.ntmps18
      go_wp2
      go_loop [3] (fun i => ∃ k : Nat, k ≤ s.size ∧ i = .int .i64 k ∧ Hid (∀ c ∈ s.data.toList.take k, Pl.blank c = false)) (fun i => s.size - (intOf i).toNat)
      case atStart => exact ⟨0, Nat.zero_le _, rfl, fun c hc => by simp at hc⟩
      case round =>
        obtain ⟨k, hk, rfl, hh⟩ := hrel
        clear k45 he
        by_cases hlt : k < s.size
        · have HN : Hid (Pl.blank s[k] = false → ∀ c ∈ s.data.toList.take (k + 1), Pl.blank c = false) := nob_snoc s k hlt hh.out
          have HK := (show Hid _ from kw_class s[k])
          have hcl : (97 ≤ s[k].toNat ∧ s[k].toNat ≤ 122) ∨ (65 ≤ s[k].toNat ∧ s[k].toNat ≤ 90) ∨ (48 ≤ s[k].toNat ∧ s[k].toNat ≤ 57) ∨ s[k].toNat = 45 ∨ (s[k].toNat < 48 ∧ s[k].toNat ≠ 45) ∨ (57 < s[k].toNat ∧ s[k].toNat < 65) ∨ (90 < s[k].toNat ∧ s[k].toNat < 97) ∨ 122 < s[k].toNat := by omega
          rcases hcl with ⟨a, b⟩ | ⟨a, b⟩ | ⟨a, b⟩ | a | ⟨a, b⟩ | ⟨a, b⟩ | ⟨a, b⟩ | a
          · have d1 : decide ((s[k].toNat : Int) ≤ 122) = true := by simp; omega
            go_wp2
            go_round
            case rel => exact ⟨k + 1, by omega, by go_num, HN.out (HK.out (.inl ⟨a, b⟩))⟩
            case measure => simp [intOf]; omega
          · have d1 : decide ((s[k].toNat : Int) ≤ 90) = true := by simp; omega
            go_wp2
            go_round
            case rel => exact ⟨k + 1, by omega, by go_num, HN.out (HK.out (.inr (.inl ⟨a, b⟩)))⟩
            case measure => simp [intOf]; omega
          · have d1 : decide ((s[k].toNat : Int) ≤ 57) = true := by simp; omega
            go_wp2
            go_round
            case rel => exact ⟨k + 1, by omega, by go_num, HN.out (HK.out (.inr (.inr (.inl ⟨a, b⟩))))⟩
            case measure => simp [intOf]; omega
          · have d1 : ((s[k].toNat : Int) == 45) = true := by rw [a]; rfl
            have d2 : s[k].toNat ≤ 45 := by omega
            have A : Hid (s[k].toNat = 45) := a
            clear a
            go_wp2
            go_round
            case rel => exact ⟨k + 1, by omega, by go_num, HN.out (HK.out (.inr (.inr (.inr A.out))))⟩
            case measure => simp [intOf]; omega
          · have d1 : ((s[k].toNat : Int) == 45) = false := by rw [beq_eq_false_iff_ne]; omega
            clear b
            go_wp2
            go_ret
            exact ⟨kw_no rfl, rfl⟩
          · have d1 : ((s[k].toNat : Int) == 45) = false := by rw [beq_eq_false_iff_ne]; omega
            have d2 : decide ((s[k].toNat : Int) ≤ 57) = false := by simp; omega
            go_wp2
            go_ret
            exact ⟨kw_no rfl, rfl⟩
          · have d1 : ((s[k].toNat : Int) == 45) = false := by rw [beq_eq_false_iff_ne]; omega
            have d2 : decide ((s[k].toNat : Int) ≤ 57) = false := by simp; omega
            have d3 : decide ((s[k].toNat : Int) ≤ 90) = false := by simp; omega
            go_wp2
            go_ret
            exact ⟨kw_no rfl, rfl⟩
          · have d1 : ((s[k].toNat : Int) == 45) = false := by rw [beq_eq_false_iff_ne]; omega
            have d2 : decide ((s[k].toNat : Int) ≤ 57) = false := by simp; omega
            have d3 : decide ((s[k].toNat : Int) ≤ 90) = false := by simp; omega
            have d4 : decide ((s[k].toNat : Int) ≤ 122) = false := by simp; omega
            go_wp2
            go_ret
            exact ⟨kw_no rfl, rfl⟩
        · go_wp2
          go_ret
          exact ⟨kw_yes rfl (by have := hh.out; rwa [List.take_of_length_le (by rw [len_toList]; omega)] at this), rfl⟩

set_option maxHeartbeats 400000 in
theorem zzkw_any (s : ByteArray) (w : World) (hs : s.size ≤ 1048576) :
    Calls Try.prog 11 #[.string s] w fun e w' => KwEnds s e ∧ w' = w := by
  go_enter Try.func11, Try.ntmps11
  go_wp2_with fail
  refine (kw_any s _ hs).mono ?_
  rintro e w' ⟨⟨r, rfl, hr⟩, rfl⟩
  have HR : Hid (r = true → ∀ c ∈ s.data.toList, Pl.blank c = false) := hr
  clear hr
  go_wp2_with fail
  go_ret
  exact ⟨⟨r, rfl, HR.out⟩, rfl⟩

set_option maxHeartbeats 400000 in
theorem lawB (s : ByteArray) (w0 : s.size ≤ maxLen) (w : World) :
    Calls Try.prog 4 #[.string s] w fun e w' => e = .returned (.bool true) ∧ w' = w := by
  by_cases hs : s.size ≤ 1048576
  · have Z : Hid (∀ W, Calls Try.prog 10 #[.string s] W fun e w' => e = .returned (.bool true) ∧ w' = W) := by
      intro W
      have := zz4_any s W w0
      rw [decide_eq_true hs] at this
      exact this
    have C : Hid (∀ W, Calls Try.prog 9 #[.string s] W fun e w' => e = .returned (.int .i64 (Pl.we s.data.toList : Int)) ∧ w' = W) := fun W => zzwe_any s W w0
    clear w0
    go_enter Try.func4, Try.ntmps4
    go_wp2_with fail
    refine (Z.out _).mono ?_
    rintro e w' ⟨rfl, rfl⟩
    go_wp2_with fail
    refine (zzkw_any s _ hs).mono ?_
    rintro e w' ⟨⟨r, rfl, hr⟩, rfl⟩
    cases r
    · clear hr
      go_wp2_with fail
      go_ret
      exact ⟨rfl, rfl⟩
    · have hw : Pl.we s.data.toList = s.size := by rw [Pl.we_all _ (hr rfl), len_toList]
      rw [hw] at C
      clear hr hw
      go_wp2_with fail
      refine (C.out _).mono ?_
      rintro e w' ⟨rfl, rfl⟩
      go_wp2_with fail
      go_ret
      exact ⟨ret_bool (by simp), rfl⟩
  · have Z : Hid (∀ W, Calls Try.prog 10 #[.string s] W fun e w' => e = .returned (.bool false) ∧ w' = W) := by
      intro W
      have := zz4_any s W w0
      rw [decide_eq_false hs] at this
      exact this
    clear w0
    go_enter Try.func4, Try.ntmps4
    go_wp2_with fail
    refine (Z.out _).mono ?_
    rintro e w' ⟨rfl, rfl⟩
    go_wp2_with fail
    go_ret
    exact ⟨rfl, rfl⟩

end Go.Proofs.Qxb6603737a
