/-
  The walk of split: its good end where no dash is found.
-/
import Derived.Test.Qxb6603176aSplitA
namespace Go.Proofs.Qxb6603176a
open Go.RowKit
set_option linter.unusedVariables false

set_option maxHeartbeats 2000000 in
theorem split_none_big (s : ByteArray) (w : World) (hs : s.size ≤ 1048576) (E C D : Nat) (S1 S2 : ByteArray) (bs br : Bool) (h2 : 2 ≤ E) (h8 : E ≤ 8) (hEs : s.size = E) (hBs : E ≤ s.size) (hCs : C ≤ s.size) (hz2 : S2.size ≤ s.size)
    (HI : Hid (∀ W, Calls Try.prog 37 #[.string s, .int .u8 45] W fun e w' => e = .returned (.int .i64 (-1)) ∧ w' = W))
    (HA : Hid (∀ W, Calls Try.prog 38 #[.string (s.extract 0 E)] W fun e w' => e = .returned (.bool true) ∧ w' = W))
    (h3 : 3 < E)
    (H1 : Hid (S1.data.toList = Pl.sub s.data.toList (E))) (H2 : Hid (S2.data.toList = Pl.sub s.data.toList C))
    (HS : Hid (∀ W, Calls Try.prog 41 #[.string S1] W fun e w' => e = .returned (.bool bs) ∧ w' = W))
    (HR : Hid (∀ W, Calls Try.prog 42 #[.string S2] W fun e w' => e = .returned (.bool br) ∧ w' = W))
    (Hz1 : Hid (bs = true → S1.size = 4)) (HC : Hid (C = cond bs (E + 5) (E))) (HD : Hid (D = cond br (C + 1 + S2.size) C)) :
    Calls Try.prog 33 #[.string s] w fun e w' => e = .returned (.tuple #[.agg #[.string (s.extract 0 (E)), .string (cond bs S1 ⟨#[]⟩), .string (cond br S2 ⟨#[]⟩), .int .i64 ((E : Nat) : Int), .int .i64 (C : Int), .int .i64 (D : Int)], .bool true]) ∧ Below w.heap.size w w' := by
  go_enter Try.func33, Try.ntmps33
  go_wp2_with fail
  refine (HI.out _).mono ?_
  rintro e w' ⟨rfl, rfl⟩
  go_wp2_with fail
  refine (HA.out _).mono ?_
  rintro e w' ⟨rfl, rfl⟩
  go_wp2_with fail
  go_loop [4, 5, 6] (fun e n _ => e = .int .i64 E ∧ n = .int .i64 0) (fun _ n _ => 3 - (intOf n).toNat)
  case atStart => exact ⟨rfl, rfl⟩
  case round =>
    obtain ⟨rfl, rfl⟩ := hrel
    go_wp2_with fail
    refine (subtag_int s _ E _ hs (by omega) (by omega) S1 (by exact H1.out)).mono ?_
    rintro e w' ⟨rfl, rfl⟩
    go_wp2_with fail
    refine (HS.out _).mono ?_
    rintro e w' ⟨rfl, rfl⟩
    cases bs
    · go_wp2_with fail
      refine (subtag_int s _ C _ hs (by have := HC.out; simp at this; omega) (by omega) S2 (by exact H2.out)).mono ?_
      rintro e w' ⟨rfl, rfl⟩
      go_wp2_with fail
      refine (HR.out _).mono ?_
      rintro e w' ⟨rfl, rfl⟩
      cases br
      · go_wp2_with fail
        refine bodyPost_ret (v := .tuple #[.agg #[.string (s.extract 0 (E)), .string ⟨#[]⟩, .string ⟨#[]⟩, .int .i64 ((E : Nat) : Int), .int .i64 (C : Int), .int .i64 (D : Int)], .bool true]) (by simp [results, Try.results33, go_sem]; have hc := HC.out; have hd := HD.out; simp at hc hd; omega) rfl ⟨rfl, ?_⟩
        exact (Below.refl _ _).alloc (Nat.le_refl _) _
      · go_wp2_with fail
        refine bodyPost_ret (v := .tuple #[.agg #[.string (s.extract 0 (E)), .string ⟨#[]⟩, .string S2, .int .i64 ((E : Nat) : Int), .int .i64 (C : Int), .int .i64 (D : Int)], .bool true]) (by simp [results, Try.results33, go_sem]; have hc := HC.out; have hd := HD.out; simp at hc hd; omega) rfl ⟨rfl, ?_⟩
        exact (Below.refl _ _).alloc (Nat.le_refl _) _
    · have hz1 := Hz1.out rfl
      go_wp2_with fail
      refine (subtag_int s _ C _ hs (by have := HC.out; simp at this; omega) (by omega) S2 (by exact H2.out)).mono ?_
      rintro e w' ⟨rfl, rfl⟩
      go_wp2_with fail
      refine (HR.out _).mono ?_
      rintro e w' ⟨rfl, rfl⟩
      cases br
      · go_wp2_with fail
        refine bodyPost_ret (v := .tuple #[.agg #[.string (s.extract 0 (E)), .string S1, .string ⟨#[]⟩, .int .i64 ((E : Nat) : Int), .int .i64 (C : Int), .int .i64 (D : Int)], .bool true]) (by simp [results, Try.results33, go_sem]; have hc := HC.out; have hd := HD.out; simp at hc hd; omega) rfl ⟨rfl, ?_⟩
        exact (Below.refl _ _).alloc (Nat.le_refl _) _
      · go_wp2_with fail
        refine bodyPost_ret (v := .tuple #[.agg #[.string (s.extract 0 (E)), .string S1, .string S2, .int .i64 ((E : Nat) : Int), .int .i64 (C : Int), .int .i64 (D : Int)], .bool true]) (by simp [results, Try.results33, go_sem]; have hc := HC.out; have hd := HD.out; simp at hc hd; omega) rfl ⟨rfl, ?_⟩
        exact (Below.refl _ _).alloc (Nat.le_refl _) _

set_option maxHeartbeats 2000000 in
theorem split_none_no (s : ByteArray) (w : World) (hs : s.size ≤ 1048576) (E C D : Nat) (S1 S2 : ByteArray) (bs br : Bool) (h2 : 2 ≤ E) (h8 : E ≤ 8) (hEs : s.size = E) (hBs : E ≤ s.size) (hCs : C ≤ s.size) (hz2 : S2.size ≤ s.size)
    (HI : Hid (∀ W, Calls Try.prog 37 #[.string s, .int .u8 45] W fun e w' => e = .returned (.int .i64 (-1)) ∧ w' = W))
    (HA : Hid (∀ W, Calls Try.prog 38 #[.string (s.extract 0 E)] W fun e w' => e = .returned (.bool true) ∧ w' = W))
    (h3 : E ≤ 3) (S0 : ByteArray) (H0 : Hid (S0.data.toList = Pl.sub s.data.toList E)) (HX : Hid (∀ W, Calls Try.prog 40 #[.string S0] W fun e w' => e = .returned (.bool false) ∧ w' = W))
    (H1 : Hid (S1.data.toList = Pl.sub s.data.toList (E))) (H2 : Hid (S2.data.toList = Pl.sub s.data.toList C))
    (HS : Hid (∀ W, Calls Try.prog 41 #[.string S1] W fun e w' => e = .returned (.bool bs) ∧ w' = W))
    (HR : Hid (∀ W, Calls Try.prog 42 #[.string S2] W fun e w' => e = .returned (.bool br) ∧ w' = W))
    (Hz1 : Hid (bs = true → S1.size = 4)) (HC : Hid (C = cond bs (E + 5) (E))) (HD : Hid (D = cond br (C + 1 + S2.size) C)) :
    Calls Try.prog 33 #[.string s] w fun e w' => e = .returned (.tuple #[.agg #[.string (s.extract 0 (E)), .string (cond bs S1 ⟨#[]⟩), .string (cond br S2 ⟨#[]⟩), .int .i64 ((E : Nat) : Int), .int .i64 (C : Int), .int .i64 (D : Int)], .bool true]) ∧ Below w.heap.size w w' := by
  go_enter Try.func33, Try.ntmps33
  go_wp2_with fail
  refine (HI.out _).mono ?_
  rintro e w' ⟨rfl, rfl⟩
  go_wp2_with fail
  refine (HA.out _).mono ?_
  rintro e w' ⟨rfl, rfl⟩
  go_wp2_with fail
  go_loop [4, 5, 6] (fun e n _ => e = .int .i64 E ∧ n = .int .i64 0) (fun _ n _ => 3 - (intOf n).toNat)
  case atStart => exact ⟨rfl, rfl⟩
  case round =>
    obtain ⟨rfl, rfl⟩ := hrel
    go_wp2_with fail
    refine (subtag_int s _ E _ hs (by omega) (by omega) S0 (by exact H0.out)).mono ?_
    rintro e w' ⟨rfl, rfl⟩
    go_wp2_with fail
    refine (HX.out _).mono ?_
    rintro e w' ⟨rfl, rfl⟩
    go_wp2_with fail
    refine (subtag_int s _ E _ hs (by omega) (by omega) S1 (by exact H1.out)).mono ?_
    rintro e w' ⟨rfl, rfl⟩
    go_wp2_with fail
    refine (HS.out _).mono ?_
    rintro e w' ⟨rfl, rfl⟩
    cases bs
    · go_wp2_with fail
      refine (subtag_int s _ C _ hs (by have := HC.out; simp at this; omega) (by omega) S2 (by exact H2.out)).mono ?_
      rintro e w' ⟨rfl, rfl⟩
      go_wp2_with fail
      refine (HR.out _).mono ?_
      rintro e w' ⟨rfl, rfl⟩
      cases br
      · go_wp2_with fail
        refine bodyPost_ret (v := .tuple #[.agg #[.string (s.extract 0 (E)), .string ⟨#[]⟩, .string ⟨#[]⟩, .int .i64 ((E : Nat) : Int), .int .i64 (C : Int), .int .i64 (D : Int)], .bool true]) (by simp [results, Try.results33, go_sem]; have hc := HC.out; have hd := HD.out; simp at hc hd; omega) rfl ⟨rfl, ?_⟩
        exact (Below.refl _ _).alloc (Nat.le_refl _) _
      · go_wp2_with fail
        refine bodyPost_ret (v := .tuple #[.agg #[.string (s.extract 0 (E)), .string ⟨#[]⟩, .string S2, .int .i64 ((E : Nat) : Int), .int .i64 (C : Int), .int .i64 (D : Int)], .bool true]) (by simp [results, Try.results33, go_sem]; have hc := HC.out; have hd := HD.out; simp at hc hd; omega) rfl ⟨rfl, ?_⟩
        exact (Below.refl _ _).alloc (Nat.le_refl _) _
    · have hz1 := Hz1.out rfl
      go_wp2_with fail
      refine (subtag_int s _ C _ hs (by have := HC.out; simp at this; omega) (by omega) S2 (by exact H2.out)).mono ?_
      rintro e w' ⟨rfl, rfl⟩
      go_wp2_with fail
      refine (HR.out _).mono ?_
      rintro e w' ⟨rfl, rfl⟩
      cases br
      · go_wp2_with fail
        refine bodyPost_ret (v := .tuple #[.agg #[.string (s.extract 0 (E)), .string S1, .string ⟨#[]⟩, .int .i64 ((E : Nat) : Int), .int .i64 (C : Int), .int .i64 (D : Int)], .bool true]) (by simp [results, Try.results33, go_sem]; have hc := HC.out; have hd := HD.out; simp at hc hd; omega) rfl ⟨rfl, ?_⟩
        exact (Below.refl _ _).alloc (Nat.le_refl _) _
      · go_wp2_with fail
        refine bodyPost_ret (v := .tuple #[.agg #[.string (s.extract 0 (E)), .string S1, .string S2, .int .i64 ((E : Nat) : Int), .int .i64 (C : Int), .int .i64 (D : Int)], .bool true]) (by simp [results, Try.results33, go_sem]; have hc := HC.out; have hd := HD.out; simp at hc hd; omega) rfl ⟨rfl, ?_⟩
        exact (Below.refl _ _).alloc (Nat.le_refl _) _

end Go.Proofs.Qxb6603176a
