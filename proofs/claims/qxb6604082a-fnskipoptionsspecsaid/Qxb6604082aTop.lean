/-
  The law's own walk.
-/
import Derived.Test.Qxb6604082aSkip
namespace Go.Proofs.Qxb6604082a
open Go.RowKit
set_option linter.unusedVariables false

theorem at? (s : ByteArray) (i : Nat) (h : i < s.size) : s.data.toList[i]? = some s[i] := by
  rw [List.getElem?_eq_getElem (by rw [len_toList]; exact h)]; rfl
theorem nat_of {s : ByteArray} {i : Nat} {c : UInt8} (h : i < s.size) (he : s.data.toList[i]? = some c) : s[i] = c := by
  rw [at? s i h] at he; exact Option.some.inj he
theorem same_at {s a : ByteArray} {K : Nat} (hd : a.data.toList = s.data.toList.drop K) (i : Nat) (hi : i < a.size) (hk : K + i < s.size) : a[i] = s[K + i] := by
  have := at? a i hi
  rw [hd, List.getElem?_drop, at? s (K + i) hk] at this
  exact (Option.some.inj this).symm
theorem dash_head {a : ByteArray} (h : dashed a.data.toList = false) (h0 : 0 < a.size) : ((a[0].toNat : Int) == 45) = false := by
  have h1 := at? a 0 h0
  match hl : a.data.toList with
  | [] => rw [hl] at h1; simp at h1
  | c :: l =>
    rw [hl] at h1 h
    simp at h1
    subst h1
    unfold dashed at h
    rw [beq_eq_false_iff_ne] at h ⊢
    intro e
    exact h (UInt8.toNat_inj.1 (by show _ = 45; omega))

set_option maxRecDepth 100000 in
set_option maxHeartbeats 2000000 in
/-- Nothing is dropped. -/
theorem top_zero (s a : ByteArray) (w : World) (hs : s.size ≤ 1048576)
    (Z : Hid (∀ W, Calls Try.prog 5 #[.string s] W fun e w' => e = .returned (.bool true) ∧ w' = W))
    (C : Hid (∀ W, Calls Try.prog 6 #[.string s] W fun e w' => e = .returned (.string a) ∧ Below W.heap.size W w'))
    (hsz : s.size = a.size) (HD : Hid (a.data.toList = s.data.toList.drop 0)) (HH : Hid (dashed a.data.toList = false)) :
    Calls Try.prog 3 #[.string s] w fun e w' => e = .returned (.bool true) ∧ Below w.heap.size w w' := by
  have hK : (s.size : Int) - (a.size : Int) = 0 := by omega
  have hsz' : s.size ≤ a.size ∧ a.size ≤ s.size := by omega
  obtain ⟨hsz1, hsz2⟩ := hsz'
  clear hsz
  go_enter Try.func3, Try.ntmps3
  go_wp2_with fail
  refine (Z.out _).mono ?_
  rintro e w' ⟨rfl, rfl⟩
  go_wp2_with fail
  refine (C.out _).mono ?_
  rintro e w1 ⟨rfl, hb⟩
  have HB : Hid (Below w'.heap.size w' w1) := hb
  clear hb
  go_wp2_with fail
  go_loopw [5] (fun i wr => ∃ k : Nat, k ≤ a.size ∧ i = .int .i64 k ∧ Hid (Below w'.heap.size w' wr)) (fun i _ => a.size - (intOf i).toNat)
  case atStart => exact ⟨0, Nat.zero_le _, rfl, HB.out⟩
  case round =>
    obtain ⟨k, hk, rfl, hbel⟩ := hrel
    by_cases hlt : k < a.size
    · have hks : k < s.size := by omega
      have hsame : a[k] = s[k] := by have := same_at HD.out k hlt (by omega); simpa using this
      have hne : ((a[k].toNat : Int) != (s[k].toNat : Int)) = false := by rw [hsame]; simp
      clear hsame
      go_wp2_with fail
      go_quiet (fail)
      go_wp2_with fail
      go_roundw
      case rel => exact ⟨k + 1, by omega, by go_num, below_drewN hbel.out _⟩
      case measure => simp [intOf]; omega
    · by_cases h0 : 0 < a.size
      · have hh := dash_head HH.out h0
        go_wp2_with fail
        go_ret
        exact ⟨rfl, hbel.out⟩
      · have hd0 : decide ((0 : Int) < (a.size : Int)) = false := decide_eq_false (by omega)
        go_wp2_with fail
        go_ret
        exact ⟨rfl, hbel.out⟩

set_option maxRecDepth 100000 in
set_option maxHeartbeats 4000000 in
/-- M + 1 bytes are dropped. -/
theorem top_some (s a : ByteArray) (w : World) (M : Nat) (hs : s.size ≤ 1048576)
    (Z : Hid (∀ W, Calls Try.prog 5 #[.string s] W fun e w' => e = .returned (.bool true) ∧ w' = W))
    (C : Hid (∀ W, Calls Try.prog 6 #[.string s] W fun e w' => e = .returned (.string a) ∧ Below W.heap.size W w'))
    (hM : M + 1 ≤ s.size) (hsz : a.size + (M + 1) = s.size) (HI : Hid (Inv s.data.toList (M + 1))) (HD : Hid (a.data.toList = s.data.toList.drop (M + 1))) (HH : Hid (dashed a.data.toList = false)) :
    Calls Try.prog 3 #[.string s] w fun e w' => e = .returned (.bool true) ∧ Below w.heap.size w w' := by
  have hK : (s.size : Int) - (a.size : Int) = (M : Int) + 1 := by omega
  have hsz1 : a.size + (M + 1) ≤ s.size := by omega
  have hsz2 : s.size ≤ a.size + (M + 1) := by omega
  have h0s : 0 < s.size := by omega
  have h00 : s[0] = 45 := nat_of h0s (HI.out.first (by omega))
  have hz1 : ((s[0].toNat : Int) != 45) = false := by rw [h00]; rfl
  have hMz : ((M : Int) + 1 == 0) = false := by rw [beq_eq_false_iff_ne]; omega
  have HMs : Hid (M < s.size) := by show M < s.size; omega
  have HL : Hid (0 < a.size → s[M]'HMs.out = 32) := fun h => nat_of HMs.out (by have := HI.out.last (by omega) (by rw [len_toList]; omega); simpa using this)
  have hgt : decide (s.size < a.size) = false := decide_eq_false (by omega)
  have hgt2 : decide ((s.size : Int) < (a.size : Int)) = false := decide_eq_false (by omega)
  clear hsz h00
  go_enter Try.func3, Try.ntmps3
  go_wp2_with fail
  refine (Z.out _).mono ?_
  rintro e w' ⟨rfl, rfl⟩
  go_wp2_with fail
  refine (C.out _).mono ?_
  rintro e w1 ⟨rfl, hb⟩
  have HB : Hid (Below w'.heap.size w' w1) := hb
  clear hb
  go_wp2_with fail
  go_loopw [5] (fun i wr => ∃ k : Nat, k ≤ a.size ∧ i = .int .i64 k ∧ Hid (Below w'.heap.size w' wr)) (fun i _ => a.size - (intOf i).toNat)
  case atStart => exact ⟨0, Nat.zero_le _, rfl, HB.out⟩
  case round =>
    obtain ⟨k, hk, rfl, hbel⟩ := hrel
    by_cases hlt : k < a.size
    · obtain ⟨Q, HQ⟩ : ∃ Q : Nat, Q = M + 1 + k := ⟨_, rfl⟩
      have hks : Q < s.size := by omega
      have hsame : a[k] = s[Q] := by have := same_at HD.out k hlt (by omega); rw [this]; congr 1; exact HQ.symm
      have hne : ((a[k].toNat : Int) != (s[Q].toNat : Int)) = false := by rw [hsame]; simp
      have hwr : IntKind.i64.wrap ((M : Int) + 1 + (k : Int)) = (Q : Int) := by
        simp only [IntKind.wrap, IntKind.bits, IntKind.signed]; simp; omega
      clear hsame HQ
      go_wp2_with fail
      go_quiet (fail)
      go_wp2_with fail
      go_roundw
      case rel => exact ⟨k + 1, by omega, by go_num, below_drewN hbel.out _⟩
      case measure => simp [intOf]; omega
    · by_cases h0 : 0 < a.size
      · have hh := dash_head HH.out h0
        go_wp2_with fail
        clear hz1 hMz hh
        go_loop [6] (fun i => ∃ j : Nat, j ≤ M ∧ i = .int .i64 j) (fun i => M - (intOf i).toNat)
        case atStart => exact ⟨0, Nat.zero_le _, rfl⟩
        case round =>
          obtain ⟨j, hj, rfl⟩ := hrel
          by_cases hjM : j < M
          · have hjs : j < s.size := by omega
            have hjs1 : j + 1 < s.size := by omega
            by_cases h32 : s[j] = 32
            · have e1 : ((s[j].toNat : Int) == 32) = true := by rw [h32]; rfl
              have e2 : s[j + 1] = 45 := nat_of hjs1 (HI.out.inner j (by omega) (by rw [at? s j hjs, h32]))
              have e3 : ((s[j + 1].toNat : Int) != 45) = false := by rw [e2]; rfl
              clear h32 e2
              go_wp2_with fail
              go_round
              case rel => exact ⟨j + 1, by omega, by go_num⟩
              case measure => simp [intOf]; omega
            · have e1 : ((s[j].toNat : Int) == 32) = false := by
                rw [beq_eq_false_iff_ne]; intro e; exact h32 (UInt8.toNat_inj.1 (by show _ = 32; omega))
              clear h32
              go_wp2_with fail
              go_round
              case rel => exact ⟨j + 1, by omega, by go_num⟩
              case measure => simp [intOf]; omega
          · have hMs := HMs.out
            have l32 : ((s[M].toNat : Int) != 32) = false := by rw [HL.out h0]; rfl
            go_wp2_with fail
            go_ret
            exact ⟨rfl, hbel.out⟩
      · have hd0 : decide ((0 : Int) < (a.size : Int)) = false := decide_eq_false (by omega)
        go_wp2_with fail
        clear hz1 hMz
        go_loop [6] (fun i => ∃ j : Nat, j ≤ M ∧ i = .int .i64 j) (fun i => M - (intOf i).toNat)
        case atStart => exact ⟨0, Nat.zero_le _, rfl⟩
        case round =>
          obtain ⟨j, hj, rfl⟩ := hrel
          by_cases hjM : j < M
          · have hjs : j < s.size := by omega
            have hjs1 : j + 1 < s.size := by omega
            by_cases h32 : s[j] = 32
            · have e1 : ((s[j].toNat : Int) == 32) = true := by rw [h32]; rfl
              have e2 : s[j + 1] = 45 := nat_of hjs1 (HI.out.inner j (by omega) (by rw [at? s j hjs, h32]))
              have e3 : ((s[j + 1].toNat : Int) != 45) = false := by rw [e2]; rfl
              clear h32 e2
              go_wp2_with fail
              go_round
              case rel => exact ⟨j + 1, by omega, by go_num⟩
              case measure => simp [intOf]; omega
            · have e1 : ((s[j].toNat : Int) == 32) = false := by
                rw [beq_eq_false_iff_ne]; intro e; exact h32 (UInt8.toNat_inj.1 (by show _ = 32; omega))
              clear h32
              go_wp2_with fail
              go_round
              case rel => exact ⟨j + 1, by omega, by go_num⟩
              case measure => simp [intOf]; omega
          · go_wp2_with fail
            go_ret
            exact ⟨rfl, hbel.out⟩

set_option maxHeartbeats 400000 in
theorem top_big (s : ByteArray) (w : World) (h : ¬ s.size ≤ 1048576) (w0 : s.size ≤ maxLen) :
    Calls Try.prog 3 #[.string s] w fun e w' => e = .returned (.bool true) ∧ Below w.heap.size w w' := by
  have Z : Hid (∀ W, Calls Try.prog 5 #[.string s] W fun e w' => e = .returned (.bool false) ∧ w' = W) := by
    intro W
    have := zz_any s W w0
    rw [decide_eq_false h] at this
    exact this
  clear w0
  go_enter Try.func3, Try.ntmps3
  go_wp2_with fail
  refine (Z.out _).mono ?_
  rintro e w' ⟨rfl, rfl⟩
  go_wp2_with fail
  go_ret
  exact ⟨rfl, Below.refl _ _⟩

/-! ### One suffix alone meets it all -/
theorem skip_exists (t : List UInt8) : ∀ (n k : Nat), t.length - k ≤ n → Inv t k → ∃ k', Inv t k' ∧ dashed (t.drop k') = false
  | 0, k, h, hI => ⟨k, hI, by rw [List.drop_of_length_le (by omega)]; rfl⟩
  | n + 1, k, h, hI => by
    cases hd : dashed (t.drop k)
    · exact ⟨k, hI, hd⟩
    · obtain ⟨k', hlt, hI', _⟩ := inv_step t k hI hd
      exact skip_exists t n k' (by omega) hI'
theorem dashed_at {t : List UInt8} {k : Nat} (h : t[k]? = some 45) : dashed (t.drop k) = true := by
  have hk : k < t.length := (List.getElem?_eq_some_iff.1 h).1
  rw [List.drop_eq_getElem_cons hk]
  rw [List.getElem?_eq_getElem hk] at h
  unfold dashed
  rw [Option.some.inj h]; rfl
theorem not_less {t : List UInt8} {k1 k2 : Nat} (h1 : Inv t k1) (d1 : dashed (t.drop k1) = false) (h2 : Inv t k2) : ¬ k1 < k2 := by
  intro hlt
  have hl := h2.le
  have : t[k1]? = some 45 := by
    rcases Nat.eq_zero_or_pos k1 with h0 | h0
    · subst h0; exact h2.first hlt
    · have := h2.inner (k1 - 1) (by omega) (h1.last h0 (by omega))
      rwa [show k1 - 1 + 1 = k1 by omega] at this
  rw [dashed_at this] at d1; cases d1
theorem only_one {t : List UInt8} {k1 k2 : Nat} (h1 : Inv t k1) (d1 : dashed (t.drop k1) = false) (h2 : Inv t k2) (d2 : dashed (t.drop k2) = false) : k1 = k2 := by
  have := not_less h1 d1 h2
  have := not_less h2 d2 h1
  omega

theorem top_any (s : ByteArray) (w0 : s.size ≤ maxLen) (w : World) :
    Calls Try.prog 3 #[.string s] w fun e w' => e = .returned (.bool true) ∧ Below w.heap.size w w' := by
  by_cases hs : s.size ≤ 1048576
  · have Z : Hid (∀ W, Calls Try.prog 5 #[.string s] W fun e w' => e = .returned (.bool true) ∧ w' = W) := by
      intro W
      have := zz_any s W w0
      rw [decide_eq_true hs] at this
      exact this
    obtain ⟨k, hI, hd⟩ := skip_exists s.data.toList s.data.toList.length 0 (by omega) (inv_zero _)
    obtain ⟨a, hD⟩ : ∃ a : ByteArray, a.data.toList = s.data.toList.drop k := ⟨⟨_⟩, rfl⟩
    have hH : dashed a.data.toList = false := by rw [hD]; exact hd
    have C : Hid (∀ W, Calls Try.prog 6 #[.string s] W fun e w' => e = .returned (.string a) ∧ Below W.heap.size W w') := by
      intro W
      refine (zzskip_any s W hs).mono ?_
      rintro e w' ⟨⟨a', k', rfl, h1, h2, h3⟩, hB⟩
      refine ⟨?_, hB⟩
      have hk := only_one h1 (by rw [← h2]; exact h3) hI hd
      subst hk
      rw [ByteArray.ext (Array.toList_inj.1 (h2.trans hD.symm))]
    have hle := hI.le
    rw [len_toList] at hle
    have hsz : a.size + k = s.size := by rw [← len_toList a, hD, List.length_drop, len_toList]; omega
    cases k with
    | zero => exact top_zero s a w hs Z C (by omega) hD hH
    | succ M => exact top_some s a w M hs Z C hle hsz hI hD hH
  · exact top_big s w hs w0

end Go.Proofs.Qxb6604082a
