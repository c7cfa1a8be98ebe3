/-
  The walk of split: its good end, by the way through the loop.
-/
import Derived.Test.Qxb6603176aLeafB
namespace Go.Proofs.Qxb6603176a
open Go.RowKit
set_option linter.unusedVariables false

theorem ba_ext {a b : ByteArray} (h : a.data.toList = b.data.toList) : a = b := ByteArray.ext (Array.toList_inj.1 h)

theorem subtag_int (s : ByteArray) (i : Int) (n : Nat) (w : World) (hs : s.size ≤ 1048576) (hin : i = (n : Int)) (hi : n ≤ s.size) (S : ByteArray) (hS : S.data.toList = Pl.sub s.data.toList n) :
    Calls Try.prog 39 #[.string s, .int .i64 i] w fun e w' => e = .returned (.string S) ∧ w' = w := by
  subst hin
  refine (subtag_any s n w (by unfold maxLen; omega) (by omega) (by omega)).mono ?_
  rintro e w' ⟨⟨r, rfl, hr⟩, rfl⟩
  exact ⟨by rw [ba_ext (hr.trans hS.symm)], rfl⟩

set_option maxHeartbeats 2000000 in
theorem split_at_big (s : ByteArray) (w : World) (hs : s.size ≤ 1048576) (E C D : Nat) (S1 S2 : ByteArray) (bs br : Bool) (h2 : 2 ≤ E) (h8 : E ≤ 8) (hEs : E ≤ s.size) (hBs : E ≤ s.size) (hCs : C ≤ s.size) (hz2 : S2.size ≤ s.size)
    (HI : Hid (∀ W, Calls Try.prog 37 #[.string s, .int .u8 45] W fun e w' => e = .returned (.int .i64 (E : Int)) ∧ w' = W))
    (HA : Hid (∀ W, Calls Try.prog 38 #[.string (s.extract 0 E)] W fun e w' => e = .returned (.bool true) ∧ w' = W))
    (h3 : 3 < E)
    (H1 : Hid (S1.data.toList = Pl.sub s.data.toList (E))) (H2 : Hid (S2.data.toList = Pl.sub s.data.toList C))
    (HS : Hid (∀ W, Calls Try.prog 41 #[.string S1] W fun e w' => e = .returned (.bool bs) ∧ w' = W))
    (HR : Hid (∀ W, Calls Try.prog 42 #[.string S2] W fun e w' => e = .returned (.bool br) ∧ w' = W))
    (Hz1 : Hid (bs = true → S1.size = 4)) (HC : Hid (C = cond bs (E + 5) (E))) (HD : Hid (D = cond br (C + 1 + S2.size) C)) :
    Calls Try.prog 33 #[.string s] w fun e w' => e = .returned (.tuple #[.agg #[.string (s.extract 0 (E)), .string (cond bs S1 ⟨#[]⟩), .string (cond br S2 ⟨#[]⟩), .int .i64 ((E : Nat) : Int), .int .i64 (C : Int), .int .i64 (D : Int)], .bool true]) ∧ Below w.heap.size w w' := by
  go_enter Try.func33, Try.ntmps33
  go_wp2_with fail
  refine (HI.out _).mono ?_
  rintro e w' ⟨rfl, rfl⟩
  go_wp2_with fail
  refine (HA.out _).mono ?_
  rintro e w' ⟨rfl, rfl⟩
  go_wp2_with fail
  go_loop [4, 5, 6] (fun e n _ => e = .int .i64 E ∧ n = .int .i64 0) (fun _ n _ => 3 - (intOf n).toNat)
  case atStart => exact ⟨rfl, rfl⟩
  case round =>
    obtain ⟨rfl, rfl⟩ := hrel
    go_wp2_with fail
    refine (subtag_int s _ E _ hs (by omega) (by omega) S1 (by exact H1.out)).mono ?_
    rintro e w' ⟨rfl, rfl⟩
    go_wp2_with fail
    refine (HS.out _).mono ?_
    rintro e w' ⟨rfl, rfl⟩
    cases bs
    · go_wp2_with fail
      refine (subtag_int s _ C _ hs (by have := HC.out; simp at this; omega) (by omega) S2 (by exact H2.out)).mono ?_
      rintro e w' ⟨rfl, rfl⟩
      go_wp2_with fail
      refine (HR.out _).mono ?_
      rintro e w' ⟨rfl, rfl⟩
      cases br
      · go_wp2_with fail
        refine bodyPost_ret (v := .tuple #[.agg #[.string (s.extract 0 (E)), .string ⟨#[]⟩, .string ⟨#[]⟩, .int .i64 ((E : Nat) : Int), .int .i64 (C : Int), .int .i64 (D : Int)], .bool true]) (by simp [results, Try.results33, go_sem]; have hc := HC.out; have hd := HD.out; simp at hc hd; omega) rfl ⟨rfl, ?_⟩
        exact (Below.refl _ _).alloc (Nat.le_refl _) _
      · go_wp2_with fail
        refine bodyPost_ret (v := .tuple #[.agg #[.string (s.extract 0 (E)), .string ⟨#[]⟩, .string S2, .int .i64 ((E : Nat) : Int), .int .i64 (C : Int), .int .i64 (D : Int)], .bool true]) (by simp [results, Try.results33, go_sem]; have hc := HC.out; have hd := HD.out; simp at hc hd; omega) rfl ⟨rfl, ?_⟩
        exact (Below.refl _ _).alloc (Nat.le_refl _) _
    · have hz1 := Hz1.out rfl
      go_wp2_with fail
      refine (subtag_int s _ C _ hs (by have := HC.out; simp at this; omega) (by omega) S2 (by exact H2.out)).mono ?_
      rintro e w' ⟨rfl, rfl⟩
      go_wp2_with fail
      refine (HR.out _).mono ?_
      rintro e w' ⟨rfl, rfl⟩
      cases br
      · go_wp2_with fail
        refine bodyPost_ret (v := .tuple #[.agg #[.string (s.extract 0 (E)), .string S1, .string ⟨#[]⟩, .int .i64 ((E : Nat) : Int), .int .i64 (C : Int), .int .i64 (D : Int)], .bool true]) (by simp [results, Try.results33, go_sem]; have hc := HC.out; have hd := HD.out; simp at hc hd; omega) rfl ⟨rfl, ?_⟩
        exact (Below.refl _ _).alloc (Nat.le_refl _) _
      · go_wp2_with fail
        refine bodyPost_ret (v := .tuple #[.agg #[.string (s.extract 0 (E)), .string S1, .string S2, .int .i64 ((E : Nat) : Int), .int .i64 (C : Int), .int .i64 (D : Int)], .bool true]) (by simp [results, Try.results33, go_sem]; have hc := HC.out; have hd := HD.out; simp at hc hd; omega) rfl ⟨rfl, ?_⟩
        exact (Below.refl _ _).alloc (Nat.le_refl _) _

set_option maxHeartbeats 2000000 in
theorem split_at_no (s : ByteArray) (w : World) (hs : s.size ≤ 1048576) (E C D : Nat) (S1 S2 : ByteArray) (bs br : Bool) (h2 : 2 ≤ E) (h8 : E ≤ 8) (hEs : E ≤ s.size) (hBs : E ≤ s.size) (hCs : C ≤ s.size) (hz2 : S2.size ≤ s.size)
    (HI : Hid (∀ W, Calls Try.prog 37 #[.string s, .int .u8 45] W fun e w' => e = .returned (.int .i64 (E : Int)) ∧ w' = W))
    (HA : Hid (∀ W, Calls Try.prog 38 #[.string (s.extract 0 E)] W fun e w' => e = .returned (.bool true) ∧ w' = W))
    (h3 : E ≤ 3) (S0 : ByteArray) (H0 : Hid (S0.data.toList = Pl.sub s.data.toList E)) (HX : Hid (∀ W, Calls Try.prog 40 #[.string S0] W fun e w' => e = .returned (.bool false) ∧ w' = W))
    (H1 : Hid (S1.data.toList = Pl.sub s.data.toList (E))) (H2 : Hid (S2.data.toList = Pl.sub s.data.toList C))
    (HS : Hid (∀ W, Calls Try.prog 41 #[.string S1] W fun e w' => e = .returned (.bool bs) ∧ w' = W))
    (HR : Hid (∀ W, Calls Try.prog 42 #[.string S2] W fun e w' => e = .returned (.bool br) ∧ w' = W))
    (Hz1 : Hid (bs = true → S1.size = 4)) (HC : Hid (C = cond bs (E + 5) (E))) (HD : Hid (D = cond br (C + 1 + S2.size) C)) :
    Calls Try.prog 33 #[.string s] w fun e w' => e = .returned (.tuple #[.agg #[.string (s.extract 0 (E)), .string (cond bs S1 ⟨#[]⟩), .string (cond br S2 ⟨#[]⟩), .int .i64 ((E : Nat) : Int), .int .i64 (C : Int), .int .i64 (D : Int)], .bool true]) ∧ Below w.heap.size w w' := by
  go_enter Try.func33, Try.ntmps33
  go_wp2_with fail
  refine (HI.out _).mono ?_
  rintro e w' ⟨rfl, rfl⟩
  go_wp2_with fail
  refine (HA.out _).mono ?_
  rintro e w' ⟨rfl, rfl⟩
  go_wp2_with fail
  go_loop [4, 5, 6] (fun e n _ => e = .int .i64 E ∧ n = .int .i64 0) (fun _ n _ => 3 - (intOf n).toNat)
  case atStart => exact ⟨rfl, rfl⟩
  case round =>
    obtain ⟨rfl, rfl⟩ := hrel
    go_wp2_with fail
    refine (subtag_int s _ E _ hs (by omega) (by omega) S0 (by exact H0.out)).mono ?_
    rintro e w' ⟨rfl, rfl⟩
    go_wp2_with fail
    refine (HX.out _).mono ?_
    rintro e w' ⟨rfl, rfl⟩
    go_wp2_with fail
    refine (subtag_int s _ E _ hs (by omega) (by omega) S1 (by exact H1.out)).mono ?_
    rintro e w' ⟨rfl, rfl⟩
    go_wp2_with fail
    refine (HS.out _).mono ?_
    rintro e w' ⟨rfl, rfl⟩
    cases bs
    · go_wp2_with fail
      refine (subtag_int s _ C _ hs (by have := HC.out; simp at this; omega) (by omega) S2 (by exact H2.out)).mono ?_
      rintro e w' ⟨rfl, rfl⟩
      go_wp2_with fail
      refine (HR.out _).mono ?_
      rintro e w' ⟨rfl, rfl⟩
      cases br
      · go_wp2_with fail
        refine bodyPost_ret (v := .tuple #[.agg #[.string (s.extract 0 (E)), .string ⟨#[]⟩, .string ⟨#[]⟩, .int .i64 ((E : Nat) : Int), .int .i64 (C : Int), .int .i64 (D : Int)], .bool true]) (by simp [results, Try.results33, go_sem]; have hc := HC.out; have hd := HD.out; simp at hc hd; omega) rfl ⟨rfl, ?_⟩
        exact (Below.refl _ _).alloc (Nat.le_refl _) _
      · go_wp2_with fail
        refine bodyPost_ret (v := .tuple #[.agg #[.string (s.extract 0 (E)), .string ⟨#[]⟩, .string S2, .int .i64 ((E : Nat) : Int), .int .i64 (C : Int), .int .i64 (D : Int)], .bool true]) (by simp [results, Try.results33, go_sem]; have hc := HC.out; have hd := HD.out; simp at hc hd; omega) rfl ⟨rfl, ?_⟩
        exact (Below.refl _ _).alloc (Nat.le_refl _) _
    · have hz1 := Hz1.out rfl
      go_wp2_with fail
      refine (subtag_int s _ C _ hs (by have := HC.out; simp at this; omega) (by omega) S2 (by exact H2.out)).mono ?_
      rintro e w' ⟨rfl, rfl⟩
      go_wp2_with fail
      refine (HR.out _).mono ?_
      rintro e w' ⟨rfl, rfl⟩
      cases br
      · go_wp2_with fail
        refine bodyPost_ret (v := .tuple #[.agg #[.string (s.extract 0 (E)), .string S1, .string ⟨#[]⟩, .int .i64 ((E : Nat) : Int), .int .i64 (C : Int), .int .i64 (D : Int)], .bool true]) (by simp [results, Try.results33, go_sem]; have hc := HC.out; have hd := HD.out; simp at hc hd; omega) rfl ⟨rfl, ?_⟩
        exact (Below.refl _ _).alloc (Nat.le_refl _) _
      · go_wp2_with fail
        refine bodyPost_ret (v := .tuple #[.agg #[.string (s.extract 0 (E)), .string S1, .string S2, .int .i64 ((E : Nat) : Int), .int .i64 (C : Int), .int .i64 (D : Int)], .bool true]) (by simp [results, Try.results33, go_sem]; have hc := HC.out; have hd := HD.out; simp at hc hd; omega) rfl ⟨rfl, ?_⟩
        exact (Below.refl _ _).alloc (Nat.le_refl _) _

set_option maxHeartbeats 2000000 in
theorem split_at_ext (s : ByteArray) (w : World) (hs : s.size ≤ 1048576) (E C D : Nat) (S1 S2 : ByteArray) (bs br : Bool) (h2 : 2 ≤ E) (h8 : E ≤ 8) (hEs : E ≤ s.size) (hBs : E + 4 ≤ s.size) (hCs : C ≤ s.size) (hz2 : S2.size ≤ s.size)
    (HI : Hid (∀ W, Calls Try.prog 37 #[.string s, .int .u8 45] W fun e w' => e = .returned (.int .i64 (E : Int)) ∧ w' = W))
    (HA : Hid (∀ W, Calls Try.prog 38 #[.string (s.extract 0 E)] W fun e w' => e = .returned (.bool true) ∧ w' = W))
    (h3 : E ≤ 3) (S0 : ByteArray) (H0 : Hid (S0.data.toList = Pl.sub s.data.toList E)) (hz0 : S0.size = 3) (HX : Hid (∀ W, Calls Try.prog 40 #[.string S0] W fun e w' => e = .returned (.bool true) ∧ w' = W))
    (H1 : Hid (S1.data.toList = Pl.sub s.data.toList (E + 4))) (H2 : Hid (S2.data.toList = Pl.sub s.data.toList C))
    (HS : Hid (∀ W, Calls Try.prog 41 #[.string S1] W fun e w' => e = .returned (.bool bs) ∧ w' = W))
    (HR : Hid (∀ W, Calls Try.prog 42 #[.string S2] W fun e w' => e = .returned (.bool br) ∧ w' = W))
    (Hz1 : Hid (bs = true → S1.size = 4)) (HC : Hid (C = cond bs (E + 4 + 5) (E + 4))) (HD : Hid (D = cond br (C + 1 + S2.size) C)) :
    Calls Try.prog 33 #[.string s] w fun e w' => e = .returned (.tuple #[.agg #[.string (s.extract 0 (E + 4)), .string (cond bs S1 ⟨#[]⟩), .string (cond br S2 ⟨#[]⟩), .int .i64 ((E + 4 : Nat) : Int), .int .i64 (C : Int), .int .i64 (D : Int)], .bool true]) ∧ Below w.heap.size w w' := by
  go_enter Try.func33, Try.ntmps33
  go_wp2_with fail
  refine (HI.out _).mono ?_
  rintro e w' ⟨rfl, rfl⟩
  go_wp2_with fail
  refine (HA.out _).mono ?_
  rintro e w' ⟨rfl, rfl⟩
  go_wp2_with fail
  go_loop [4, 5, 6] (fun e n _ => (e = .int .i64 E ∧ n = .int .i64 0) ∨ (e = .int .i64 (E + 4 : Int) ∧ n = .int .i64 1)) (fun _ n _ => 3 - (intOf n).toNat)
  case atStart => exact .inl ⟨rfl, rfl⟩
  case round =>
    rcases hrel with ⟨rfl, rfl⟩ | ⟨rfl, rfl⟩
    · go_wp2_with fail
      refine (subtag_int s _ E _ hs (by omega) (by omega) S0 (by exact H0.out)).mono ?_
      rintro e w' ⟨rfl, rfl⟩
      go_wp2_with fail
      refine (HX.out _).mono ?_
      rintro e w' ⟨rfl, rfl⟩
      go_wp2_with fail
      go_round
      case rel => exact .inr ⟨by go_num, by go_num⟩
      case measure => simp [intOf]
    · go_wp2_with fail
      refine (subtag_int s _ (E + 4) _ hs (by omega) (by omega) S1 (by exact H1.out)).mono ?_
      rintro e w' ⟨rfl, rfl⟩
      go_wp2_with fail
      refine (HS.out _).mono ?_
      rintro e w' ⟨rfl, rfl⟩
      cases bs
      · go_wp2_with fail
        refine (subtag_int s _ C _ hs (by have := HC.out; simp at this; omega) (by omega) S2 (by exact H2.out)).mono ?_
        rintro e w' ⟨rfl, rfl⟩
        go_wp2_with fail
        refine (HR.out _).mono ?_
        rintro e w' ⟨rfl, rfl⟩
        cases br
        · go_wp2_with fail
          refine bodyPost_ret (v := .tuple #[.agg #[.string (s.extract 0 (E + 4)), .string ⟨#[]⟩, .string ⟨#[]⟩, .int .i64 ((E + 4 : Nat) : Int), .int .i64 (C : Int), .int .i64 (D : Int)], .bool true]) (by simp [results, Try.results33, go_sem]; have hc := HC.out; have hd := HD.out; simp at hc hd; omega) rfl ⟨rfl, ?_⟩
          exact (Below.refl _ _).alloc (Nat.le_refl _) _
        · go_wp2_with fail
          refine bodyPost_ret (v := .tuple #[.agg #[.string (s.extract 0 (E + 4)), .string ⟨#[]⟩, .string S2, .int .i64 ((E + 4 : Nat) : Int), .int .i64 (C : Int), .int .i64 (D : Int)], .bool true]) (by simp [results, Try.results33, go_sem]; have hc := HC.out; have hd := HD.out; simp at hc hd; omega) rfl ⟨rfl, ?_⟩
          exact (Below.refl _ _).alloc (Nat.le_refl _) _
      · have hz1 := Hz1.out rfl
        go_wp2_with fail
        refine (subtag_int s _ C _ hs (by have := HC.out; simp at this; omega) (by omega) S2 (by exact H2.out)).mono ?_
        rintro e w' ⟨rfl, rfl⟩
        go_wp2_with fail
        refine (HR.out _).mono ?_
        rintro e w' ⟨rfl, rfl⟩
        cases br
        · go_wp2_with fail
          refine bodyPost_ret (v := .tuple #[.agg #[.string (s.extract 0 (E + 4)), .string S1, .string ⟨#[]⟩, .int .i64 ((E + 4 : Nat) : Int), .int .i64 (C : Int), .int .i64 (D : Int)], .bool true]) (by simp [results, Try.results33, go_sem]; have hc := HC.out; have hd := HD.out; simp at hc hd; omega) rfl ⟨rfl, ?_⟩
          exact (Below.refl _ _).alloc (Nat.le_refl _) _
        · go_wp2_with fail
          refine bodyPost_ret (v := .tuple #[.agg #[.string (s.extract 0 (E + 4)), .string S1, .string S2, .int .i64 ((E + 4 : Nat) : Int), .int .i64 (C : Int), .int .i64 (D : Int)], .bool true]) (by simp [results, Try.results33, go_sem]; have hc := HC.out; have hd := HD.out; simp at hc hd; omega) rfl ⟨rfl, ?_⟩
          exact (Below.refl _ _).alloc (Nat.le_refl _) _

end Go.Proofs.Qxb6603176a
