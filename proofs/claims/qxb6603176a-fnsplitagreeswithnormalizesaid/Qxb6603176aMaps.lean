/-
  The walks of dashed, lowerASCII, upperASCII: a new row of bytes, filled byte by byte, made a string.
-/
import Derived.Test.Qxb6603176aLeafB
import Derived.Deep.OwnRows
import Derived.Laws.IdiomStrings
namespace Go.Proofs.Qxb6603176a
open Go.RowKit
set_option linter.unusedVariables false

theorem info5 : (Try.prog.info? 5).map (fun i => (i.zero, i.size, i.bytes)) = some (some (Value.int IntKind.u8 0), 1, 1) := by kernel_rfl

/-- What the row holds after k rounds. -/
def rowAt (f : UInt8 → UInt8) (s : ByteArray) (k : Nat) : Nat → Value := fun j => if j < k then .int .u8 ((f (s.data.toList.getD j 0)).toNat : Int) else .int .u8 0

theorem rowAt_zero (f : UInt8 → UInt8) (s : ByteArray) : rowAt f s 0 = fun _ => .int .u8 0 := by
  funext j; simp [rowAt]
theorem rowAt_step (f : UInt8 → UInt8) (s : ByteArray) (k : Nat) (h : k < s.size) (v : Value) (hv : v = .int .u8 ((f s[k]).toNat : Int)) (j : Nat) :
    (if j = k then v else rowAt f s k j) = rowAt f s (k + 1) j := by
  have e : s.data.toList.getD k 0 = s[k] := by
    rw [List.getD_eq_getElem?_getD, List.getElem?_eq_getElem (by rw [len_toList]; exact h)]; rfl
  unfold rowAt
  by_cases hj : j = k
  · subst hj; rw [if_pos rfl, if_pos (by omega), hv, e]
  · rw [if_neg hj]
    by_cases hl : j < k
    · rw [if_pos hl, if_pos (by omega)]
    · rw [if_neg hl, if_neg (by omega)]
theorem row_string (f : UInt8 → UInt8) (s : ByteArray) (B : Nat) (wr : World) (h : wr.rowIs B 5 s.size (rowAt f s s.size)) :
    (convert 34 9 (.slice (some ⟨B, 0, none⟩) s.size s.size)).run Try.prog wr = .ok (.string ⟨(s.data.toList.map f).toArray⟩) wr := by
  have g := run_convert_bytes_back (P := Try.prog) wr 34 9 5 ⟨B, 0, none⟩ s.size (s.data.toList.map f) Try.underlying34 Try.underlying5 Try.underlying9 (fun j hj => by
    have hj' : j < s.size := by rw [List.length_map, len_toList] at hj; exact hj
    have := h.cell hj'
    rw [Addr.add_lit, Nat.zero_add, this]
    unfold rowAt
    rw [if_pos hj', List.getD_eq_getElem?_getD, List.getElem?_eq_getElem (by rw [len_toList]; exact hj')]
    simp)
  rw [List.length_map, len_toList] at g
  exact g

set_option maxHeartbeats 400000 in
theorem dashed_any (s : ByteArray) (w : World) (hs : s.size ≤ 1048576) :
    Calls Try.prog 22 #[.string s] w fun e w' => e = .returned (.string ⟨(s.data.toList.map Pl.dash).toArray⟩) ∧ Below w.heap.size w w' := by
  have hmk := fun w : World => run_make_row' (P := Try.prog) 34 5 (.int .u8 0) 1 Try.underlying34 info5 rfl .i64 .i64 s.size (by omega) (by omega) w
  go_enter Try.func22, Try.ntmps22
  go_wp2
  go_loopw [4] (fun i wr => ∃ k : Nat, k ≤ s.size ∧ i = .int .i64 k ∧ Hid (wr.rowIs w.heap.size 5 s.size (rowAt Pl.dash s k)) ∧ Hid (Below w.heap.size w wr)) (fun i _ => s.size - (intOf i).toNat)
  case atStart => exact ⟨0, Nat.zero_le _, rfl, by rw [rowAt_zero]; exact World.rowIs_made w _ _ _, (Below.refl _ _).alloc (Nat.le_refl _) _⟩
  case round =>
    obtain ⟨k, hk, rfl, hrow, hbel⟩ := hrel
    by_cases hlt : k < s.size
    · have hf := hrow.out.frozen k
      have hc := hrow.out.cell hlt
      by_cases h95 : s[k] = 95
      · have h1 : ((s[k].toNat : Int) == 95) = true := by rw [h95]; rfl
        have H1 : Hid (s[k] = 95) := h95
        clear h95
        go_wp2
        go_roundw
        case rel => exact ⟨k + 1, by omega, by go_num, (hrow.out.set k _).congr (fun j _ => rowAt_step Pl.dash s k hlt _ (by rw [H1.out]; rfl) j), hbel.out.setCell (Nat.le_refl _) _⟩
        case measure => simp [intOf]; omega
      · have h1 : ((s[k].toNat : Int) == 95) = false := by
          rw [beq_eq_false_iff_ne]; intro h; apply h95; apply UInt8.toNat_inj.1; show s[k].toNat = 95; omega
        have H1 : Hid (¬ s[k] = 95) := h95
        clear h95
        go_wp2
        go_roundw
        case rel => exact ⟨k + 1, by omega, by go_num, (hrow.out.set k _).congr (fun j _ => rowAt_step Pl.dash s k hlt _ (by unfold Pl.dash; rw [if_neg (by simpa using H1.out)]) j), hbel.out.setCell (Nat.le_refl _) _⟩
        case measure => simp [intOf]; omega
    · have hk2 : k = s.size := by omega
      subst hk2
      have g := row_string Pl.dash s _ wr hrow.out
      go_wp2
      go_ret
      exact ⟨rfl, hbel.out⟩


theorem low_in : ∀ c : UInt8, 65 ≤ c.toNat → c.toNat ≤ 90 → ((Pl.low c).toNat : Int) = (c.toNat : Int) + 32 := by
  apply forall_u8; decide +kernel
theorem low_out : ∀ c : UInt8, (c.toNat < 65 ∨ 90 < c.toNat) → ((Pl.low c).toNat : Int) = (c.toNat : Int) := by
  apply forall_u8; decide +kernel

set_option maxHeartbeats 400000 in
theorem low_any (s : ByteArray) (w : World) (hs : s.size ≤ 1048576) :
    Calls Try.prog 24 #[.string s] w fun e w' => e = .returned (.string ⟨(s.data.toList.map Pl.low).toArray⟩) ∧ Below w.heap.size w w' := by
  have hmk := fun w : World => run_make_row' (P := Try.prog) 34 5 (.int .u8 0) 1 Try.underlying34 info5 rfl .i64 .i64 s.size (by omega) (by omega) w
  go_enter Try.func24, Try.ntmps24
  go_wp2
  go_loopw [4] (fun i wr => ∃ k : Nat, k ≤ s.size ∧ i = .int .i64 k ∧ Hid (wr.rowIs w.heap.size 5 s.size (rowAt Pl.low s k)) ∧ Hid (Below w.heap.size w wr)) (fun i _ => s.size - (intOf i).toNat)
  case atStart => exact ⟨0, Nat.zero_le _, rfl, by rw [rowAt_zero]; exact World.rowIs_made w _ _ _, (Below.refl _ _).alloc (Nat.le_refl _) _⟩
  case round =>
    obtain ⟨k, hk, rfl, hrow, hbel⟩ := hrel
    by_cases hlt : k < s.size
    · have hf := hrow.out.frozen k
      have hc := hrow.out.cell hlt
      have h3 : s[k].toNat < 65 ∨ (65 ≤ s[k].toNat ∧ s[k].toNat ≤ 90) ∨ 90 < s[k].toNat := by omega
      rcases h3 with h1 | ⟨h1, h2⟩ | h1
      · go_wp2
        go_roundw
        case rel => exact ⟨k + 1, by omega, by go_num, (hrow.out.set k _).congr (fun j _ => rowAt_step Pl.low s k hlt _ (by rw [low_out _ (.inl h1)]) j), hbel.out.setCell (Nat.le_refl _) _⟩
        case measure => simp [intOf]; omega
      · have hd : decide ((s[k].toNat : Int) ≤ 90) = true := by simp; omega
        go_wp2
        go_roundw
        case rel => exact ⟨k + 1, by omega, by go_num, (hrow.out.set k _).congr (fun j _ => rowAt_step Pl.low s k hlt _ (by rw [low_in _ h1 h2]) j), hbel.out.setCell (Nat.le_refl _) _⟩
        case measure => simp [intOf]; omega
      · have hd : decide ((s[k].toNat : Int) ≤ 90) = false := by simp; omega
        go_wp2
        go_roundw
        case rel => exact ⟨k + 1, by omega, by go_num, (hrow.out.set k _).congr (fun j _ => rowAt_step Pl.low s k hlt _ (by rw [low_out _ (.inr h1)]) j), hbel.out.setCell (Nat.le_refl _) _⟩
        case measure => simp [intOf]; omega
    · have hk2 : k = s.size := by omega
      subst hk2
      have g := row_string Pl.low s _ wr hrow.out
      go_wp2
      go_ret
      exact ⟨rfl, hbel.out⟩

theorem up_in : ∀ c : UInt8, 97 ≤ c.toNat → c.toNat ≤ 122 → ((Pl.up c).toNat : Int) = (c.toNat : Int) - 32 := by
  apply forall_u8; decide +kernel
theorem up_out : ∀ c : UInt8, (c.toNat < 97 ∨ 122 < c.toNat) → ((Pl.up c).toNat : Int) = (c.toNat : Int) := by
  apply forall_u8; decide +kernel

set_option maxHeartbeats 400000 in
theorem up_any (s : ByteArray) (w : World) (hs : s.size ≤ 1048576) :
    Calls Try.prog 26 #[.string s] w fun e w' => e = .returned (.string ⟨(s.data.toList.map Pl.up).toArray⟩) ∧ Below w.heap.size w w' := by
  have hmk := fun w : World => run_make_row' (P := Try.prog) 34 5 (.int .u8 0) 1 Try.underlying34 info5 rfl .i64 .i64 s.size (by omega) (by omega) w
  go_enter Try.func26, Try.ntmps26
  go_wp2
  go_loopw [4] (fun i wr => ∃ k : Nat, k ≤ s.size ∧ i = .int .i64 k ∧ Hid (wr.rowIs w.heap.size 5 s.size (rowAt Pl.up s k)) ∧ Hid (Below w.heap.size w wr)) (fun i _ => s.size - (intOf i).toNat)
  case atStart => exact ⟨0, Nat.zero_le _, rfl, by rw [rowAt_zero]; exact World.rowIs_made w _ _ _, (Below.refl _ _).alloc (Nat.le_refl _) _⟩
  case round =>
    obtain ⟨k, hk, rfl, hrow, hbel⟩ := hrel
    by_cases hlt : k < s.size
    · have hf := hrow.out.frozen k
      have hc := hrow.out.cell hlt
      have h3 : s[k].toNat < 97 ∨ (97 ≤ s[k].toNat ∧ s[k].toNat ≤ 122) ∨ 122 < s[k].toNat := by omega
      rcases h3 with h1 | ⟨h1, h2⟩ | h1
      · go_wp2
        go_roundw
        case rel => exact ⟨k + 1, by omega, by go_num, (hrow.out.set k _).congr (fun j _ => rowAt_step Pl.up s k hlt _ (by rw [up_out _ (.inl h1)]) j), hbel.out.setCell (Nat.le_refl _) _⟩
        case measure => simp [intOf]; omega
      · have hd : decide ((s[k].toNat : Int) ≤ 122) = true := by simp; omega
        go_wp2
        go_roundw
        case rel => exact ⟨k + 1, by omega, by go_num, (hrow.out.set k _).congr (fun j _ => rowAt_step Pl.up s k hlt _ (by rw [up_in _ h1 h2]) j), hbel.out.setCell (Nat.le_refl _) _⟩
        case measure => simp [intOf]; omega
      · have hd : decide ((s[k].toNat : Int) ≤ 122) = false := by simp; omega
        go_wp2
        go_roundw
        case rel => exact ⟨k + 1, by omega, by go_num, (hrow.out.set k _).congr (fun j _ => rowAt_step Pl.up s k hlt _ (by rw [up_out _ (.inr h1)]) j), hbel.out.setCell (Nat.le_refl _) _⟩
        case measure => simp [intOf]; omega
    · have hk2 : k = s.size := by omega
      subst hk2
      have g := row_string Pl.up s _ wr hrow.out
      go_wp2
      go_ret
      exact ⟨rfl, hbel.out⟩

end Go.Proofs.Qxb6603176a
