/-
  split, whole; ZZSplit.
-/
import Derived.Test.Qxb6603176aSplitB
import Derived.Deep.QuietTactic
import Derived.BigQuiet
namespace Go.Proofs.Qxb6603176a
open Go.RowKit
set_option linter.unusedVariables false

set_option maxHeartbeats 2000000 in
theorem split_bad (s : ByteArray) (w : World) (hs : s.size ≤ 1048576) (E : Nat) (x : Int) (hx : (x = (E : Int) ∧ E ≤ s.size) ∨ (x = -1 ∧ s.size = E))
    (HI : Hid (∀ W, Calls Try.prog 37 #[.string s, .int .u8 45] W fun e w' => e = .returned (.int .i64 x) ∧ w' = W))
    (hb : E < 2 ∨ 8 < E ∨ (2 ≤ E ∧ E ≤ 8 ∧ Hid (∀ W, Calls Try.prog 38 #[.string (s.extract 0 E)] W fun e w' => e = .returned (.bool false) ∧ w' = W))) :
    Calls Try.prog 33 #[.string s] w fun e w' => e = .returned (.tuple #[.agg #[.string ⟨#[]⟩, .string ⟨#[]⟩, .string ⟨#[]⟩, .int .i64 0, .int .i64 0, .int .i64 0], .bool false]) ∧ Below w.heap.size w w' := by
  have hbuild : ∀ W, (Instr.build 36 #[]).run Try.prog W = .ok (.agg #[.string ⟨#[]⟩, .string ⟨#[]⟩, .string ⟨#[]⟩, .int .i64 0, .int .i64 0, .int .i64 0]) W := fun _ => by kernel_rfl
  rcases hx with ⟨rfl, hEs⟩ | ⟨rfl, hEs⟩
  · rcases hb with h | h | ⟨h2, h8, HA⟩
    · have hd : decide ((E : Int) < 2) = true := by simp; omega
      go_enter Try.func33, Try.ntmps33
      go_wp2_with fail
      refine (HI.out _).mono ?_
      rintro e w' ⟨rfl, rfl⟩
      go_wp2_with fail
      exact bodyPost_ret (v := .tuple #[.agg #[.string ⟨#[]⟩, .string ⟨#[]⟩, .string ⟨#[]⟩, .int .i64 0, .int .i64 0, .int .i64 0], .bool false]) (by simp [results, Try.results33, go_sem]) rfl ⟨rfl, (Below.refl _ _).alloc (Nat.le_refl _) _⟩
    · have hd : decide ((E : Int) < 2) = false := by simp; omega
      have hd2 : decide (8 < (E : Int)) = true := by simp; omega
      go_enter Try.func33, Try.ntmps33
      go_wp2_with fail
      refine (HI.out _).mono ?_
      rintro e w' ⟨rfl, rfl⟩
      go_wp2_with fail
      exact bodyPost_ret (v := .tuple #[.agg #[.string ⟨#[]⟩, .string ⟨#[]⟩, .string ⟨#[]⟩, .int .i64 0, .int .i64 0, .int .i64 0], .bool false]) (by simp [results, Try.results33, go_sem]) rfl ⟨rfl, (Below.refl _ _).alloc (Nat.le_refl _) _⟩
    · go_enter Try.func33, Try.ntmps33
      go_wp2_with fail
      refine (HI.out _).mono ?_
      rintro e w' ⟨rfl, rfl⟩
      go_wp2_with fail
      refine (HA.out _).mono ?_
      rintro e w' ⟨rfl, rfl⟩
      go_wp2_with fail
      exact bodyPost_ret (v := .tuple #[.agg #[.string ⟨#[]⟩, .string ⟨#[]⟩, .string ⟨#[]⟩, .int .i64 0, .int .i64 0, .int .i64 0], .bool false]) (by simp [results, Try.results33, go_sem]) rfl ⟨rfl, (Below.refl _ _).alloc (Nat.le_refl _) _⟩
  · rcases hb with h | h | ⟨h2, h8, HA⟩
    · have hd : decide ((E : Int) < 2) = true := by simp; omega
      go_enter Try.func33, Try.ntmps33
      go_wp2_with fail
      refine (HI.out _).mono ?_
      rintro e w' ⟨rfl, rfl⟩
      go_wp2_with fail
      exact bodyPost_ret (v := .tuple #[.agg #[.string ⟨#[]⟩, .string ⟨#[]⟩, .string ⟨#[]⟩, .int .i64 0, .int .i64 0, .int .i64 0], .bool false]) (by simp [results, Try.results33, go_sem]) rfl ⟨rfl, (Below.refl _ _).alloc (Nat.le_refl _) _⟩
    · have hd : decide ((E : Int) < 2) = false := by simp; omega
      have hd2 : decide (8 < (E : Int)) = true := by simp; omega
      go_enter Try.func33, Try.ntmps33
      go_wp2_with fail
      refine (HI.out _).mono ?_
      rintro e w' ⟨rfl, rfl⟩
      go_wp2_with fail
      exact bodyPost_ret (v := .tuple #[.agg #[.string ⟨#[]⟩, .string ⟨#[]⟩, .string ⟨#[]⟩, .int .i64 0, .int .i64 0, .int .i64 0], .bool false]) (by simp [results, Try.results33, go_sem]) rfl ⟨rfl, (Below.refl _ _).alloc (Nat.le_refl _) _⟩
    · go_enter Try.func33, Try.ntmps33
      go_wp2_with fail
      refine (HI.out _).mono ?_
      rintro e w' ⟨rfl, rfl⟩
      go_wp2_with fail
      refine (HA.out _).mono ?_
      rintro e w' ⟨rfl, rfl⟩
      go_wp2_with fail
      exact bodyPost_ret (v := .tuple #[.agg #[.string ⟨#[]⟩, .string ⟨#[]⟩, .string ⟨#[]⟩, .int .i64 0, .int .i64 0, .int .i64 0], .bool false]) (by simp [results, Try.results33, go_sem]) rfl ⟨rfl, (Below.refl _ _).alloc (Nat.le_refl _) _⟩

end Go.Proofs.Qxb6603176a
