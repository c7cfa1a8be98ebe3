/-
  The walk of caseLetter.
-/
import Derived.Test.Qxb6603176aLeafB
namespace Go.Proofs.Qxb6603176a
open Go.RowKit
set_option linter.unusedVariables false

theorem case_class : ∀ c : UInt8, (Pl.isL c = true → ((c.toNat &&& 223 : Nat) = (Pl.up c).toNat) ∧ (c.toNat ||| 32 = (Pl.low c).toNat) ∧ ((97 ≤ c.toNat ∧ c.toNat ≤ 122) ∨ (c.toNat < 97 ∧ 65 ≤ c.toNat ∧ c.toNat ≤ 90))) ∧
    (Pl.isL c = false → c.toNat < 65 ∨ (90 < c.toNat ∧ c.toNat < 97) ∨ 122 < c.toNat) := by
  apply forall_u8; decide +kernel

set_option maxHeartbeats 1000000 in
theorem case_any (c : UInt8) (n j index : Nat) (ext : Bool) (w : World) (hn : n ≤ 1048576) (hj : j ≤ 1048576) (hi : index ≤ 1048577) :
    Calls Try.prog 35 #[.int .u8 c.toNat, .int .i64 n, .int .i64 j, .int .i64 index, .bool ext] w fun e w' => e = .returned (.int .u8 ((Pl.caseL c n j index ext).toNat : Int)) ∧ w' = w := by
  have hcl := case_class c
  cases hL : Pl.isL c
  · have H : Hid (Pl.caseL c n j index ext = c) := by show Pl.caseL c n j index ext = c; unfold Pl.caseL; rw [hL]; rfl
    have h1 := hcl.2 hL
    clear hcl hL
    rcases h1 with h1 | ⟨h1, h2⟩ | h1
    · go_enter Try.func35, Try.ntmps35
      go_wp2
      go_ret
      exact ⟨ret_int (by rw [H.out]), rfl⟩
    · have hd : decide ((c.toNat : Int) ≤ 90) = false := by simp; omega
      go_enter Try.func35, Try.ntmps35
      go_wp2
      go_ret
      exact ⟨ret_int (by rw [H.out]), rfl⟩
    · have hd : decide ((c.toNat : Int) ≤ 90) = false := by simp; omega
      have hd2 : decide ((c.toNat : Int) ≤ 122) = false := by simp; omega
      go_enter Try.func35, Try.ntmps35
      go_wp2
      go_ret
      exact ⟨ret_int (by rw [H.out]), rfl⟩
  · obtain ⟨hup, hlow, hrange⟩ := hcl.1 hL
    have hor : bits .or .u8 (c.toNat : Int) 32 = ((Pl.low c).toNat : Int) := by
      rw [show (32 : Int) = ((32 : Nat) : Int) from rfl, u8_or_nat _ 32 (by have := c.toNat_lt; omega) (by omega), hlow]
    have hand : bits .andNot .u8 (c.toNat : Int) 32 = ((Pl.up c).toNat : Int) := by
      rw [show (32 : Int) = ((32 : Nat) : Int) from rfl, u8_andNot_nat _ 32 (by have := c.toNat_lt; omega) (by omega)]
      show ((c.toNat &&& 223 : Nat) : Int) = _
      rw [hup]
    have H : Hid (Pl.caseL c n j index ext = if decide (0 < index) && !ext && (n == 2 || n == 4 && j == 0) then Pl.up c else Pl.low c) := by
      show Pl.caseL c n j index ext = _; unfold Pl.caseL; rw [hL]; rfl
    clear hcl hL hup hlow
    obtain ⟨U, HU⟩ : ∃ U : UInt8, U = Pl.up c := ⟨_, rfl⟩
    obtain ⟨L, HL⟩ : ∃ L : UInt8, L = Pl.low c := ⟨_, rfl⟩
    rw [← HU] at hand
    rw [← HL] at hor
    have HU' : Hid (U = Pl.up c) := HU
    have HL' : Hid (L = Pl.low c) := HL
    clear HU HL
    -- the letters' test first
    by_cases h0 : 0 < index
    · cases ext
      · by_cases h2 : n = 2
        · have k2 : ((n : Int) == 2) = true := by simp; omega
          have H2 : Hid (Pl.caseL c n j index false = U) := by
            show Pl.caseL c n j index false = U; rw [H.out, HU'.out, if_pos (by simp [h0, h2])]
          clear H h2
          rcases hrange with ⟨r1, r2⟩ | ⟨r1, r2, r3⟩
          · have hd : decide ((c.toNat : Int) ≤ 122) = true := by simp; omega
            go_enter Try.func35, Try.ntmps35
            go_wp2
            go_ret
            exact ⟨ret_int (by rw [H2.out]), rfl⟩
          · have hd : decide ((c.toNat : Int) ≤ 90) = true := by simp; omega
            go_enter Try.func35, Try.ntmps35
            go_wp2
            go_ret
            exact ⟨ret_int (by rw [H2.out]), rfl⟩
        · have k2 : ((n : Int) == 2) = false := by simp; omega
          by_cases h4 : n = 4
          · have k4 : ((n : Int) == 4) = true := by simp; omega
            by_cases hj0 : j = 0
            · have kj : ((j : Int) == 0) = true := by simp; omega
              have H2 : Hid (Pl.caseL c n j index false = U) := by
                show Pl.caseL c n j index false = U; rw [H.out, HU'.out, if_pos (by simp [h0, h4, hj0])]
              clear H h2 h4 hj0
              rcases hrange with ⟨r1, r2⟩ | ⟨r1, r2, r3⟩
              · have hd : decide ((c.toNat : Int) ≤ 122) = true := by simp; omega
                go_enter Try.func35, Try.ntmps35
                go_wp2
                go_ret
                exact ⟨ret_int (by rw [H2.out]), rfl⟩
              · have hd : decide ((c.toNat : Int) ≤ 90) = true := by simp; omega
                go_enter Try.func35, Try.ntmps35
                go_wp2
                go_ret
                exact ⟨ret_int (by rw [H2.out]), rfl⟩
            · have kj : ((j : Int) == 0) = false := by simp; omega
              have H2 : Hid (Pl.caseL c n j index false = L) := by
                show Pl.caseL c n j index false = L; rw [H.out, HL'.out, if_neg (by simp [h2, hj0])]
              clear H h2 h4 hj0
              rcases hrange with ⟨r1, r2⟩ | ⟨r1, r2, r3⟩
              · have hd : decide ((c.toNat : Int) ≤ 122) = true := by simp; omega
                go_enter Try.func35, Try.ntmps35
                go_wp2
                go_ret
                exact ⟨ret_int (by rw [H2.out]), rfl⟩
              · have hd : decide ((c.toNat : Int) ≤ 90) = true := by simp; omega
                go_enter Try.func35, Try.ntmps35
                go_wp2
                go_ret
                exact ⟨ret_int (by rw [H2.out]), rfl⟩
          · have k4 : ((n : Int) == 4) = false := by simp; omega
            have H2 : Hid (Pl.caseL c n j index false = L) := by
              show Pl.caseL c n j index false = L; rw [H.out, HL'.out, if_neg (by simp [h2, h4])]
            clear H h2 h4
            rcases hrange with ⟨r1, r2⟩ | ⟨r1, r2, r3⟩
            · have hd : decide ((c.toNat : Int) ≤ 122) = true := by simp; omega
              go_enter Try.func35, Try.ntmps35
              go_wp2
              go_ret
              exact ⟨ret_int (by rw [H2.out]), rfl⟩
            · have hd : decide ((c.toNat : Int) ≤ 90) = true := by simp; omega
              go_enter Try.func35, Try.ntmps35
              go_wp2
              go_ret
              exact ⟨ret_int (by rw [H2.out]), rfl⟩
      · have H2 : Hid (Pl.caseL c n j index true = L) := by
          show Pl.caseL c n j index true = L; rw [H.out, HL'.out, if_neg (by simp)]
        clear H
        rcases hrange with ⟨r1, r2⟩ | ⟨r1, r2, r3⟩
        · have hd : decide ((c.toNat : Int) ≤ 122) = true := by simp; omega
          go_enter Try.func35, Try.ntmps35
          go_wp2
          go_ret
          exact ⟨ret_int (by rw [H2.out]), rfl⟩
        · have hd : decide ((c.toNat : Int) ≤ 90) = true := by simp; omega
          go_enter Try.func35, Try.ntmps35
          go_wp2
          go_ret
          exact ⟨ret_int (by rw [H2.out]), rfl⟩
    · have k0 : decide ((0 : Int) < (index : Int)) = false := by simp; omega
      have H2 : Hid (Pl.caseL c n j index ext = L) := by
        show Pl.caseL c n j index ext = L; rw [H.out, HL'.out, if_neg (by simp [h0])]
      clear H
      rcases hrange with ⟨r1, r2⟩ | ⟨r1, r2, r3⟩
      · have hd : decide ((c.toNat : Int) ≤ 122) = true := by simp; omega
        go_enter Try.func35, Try.ntmps35
        go_wp2
        go_ret
        exact ⟨ret_int (by rw [H2.out]), rfl⟩
      · have hd : decide ((c.toNat : Int) ≤ 90) = true := by simp; omega
        go_enter Try.func35, Try.ntmps35
        go_wp2
        go_ret
        exact ⟨ret_int (by rw [H2.out]), rfl⟩

end Go.Proofs.Qxb6603176a
