/-
  ZZSplit.
-/
import Derived.Test.Qxb6603176aSplitD
import Derived.Deep.QuietTactic
import Derived.BigQuiet
namespace Go.Proofs.Qxb6603176a
open Go.RowKit
set_option linter.unusedVariables false

/-- What a call of 'ZZSplit' at s gives. -/
def ZZEnds (s : ByteArray) (e : Ending) : Prop :=
  ∃ L S R : ByteArray, e = .returned (.tuple #[.string L, .string S, .string R, .int .i64 ((Pl.parts s.data.toList).le : Int), .int .i64 ((Pl.parts s.data.toList).se : Int), .int .i64 ((Pl.parts s.data.toList).re : Int), .bool (Pl.parts s.data.toList).ok]) ∧
    L.data.toList = (Pl.parts s.data.toList).lang ∧ S.data.toList = (Pl.parts s.data.toList).script ∧ R.data.toList = (Pl.parts s.data.toList).region

set_option maxHeartbeats 1000000 in
theorem zzsplit_any (s : ByteArray) (w : World) (hs : s.size ≤ 1048576) :
    Calls Try.prog 18 #[.string s] w fun e w' => ZZEnds s e ∧ Below w.heap.size w w' := by
  unfold ZZEnds
  go_enter Try.func18, Try.ntmps18
  go_wp2_with fail
  refine (split_any s _ hs).mono ?_
  rintro e w1 ⟨⟨L, S, R, rfl, hL, hS, hR⟩, hb⟩
  have HQ : Hid (L.data.toList = (Pl.parts s.data.toList).lang ∧ S.data.toList = (Pl.parts s.data.toList).script ∧ R.data.toList = (Pl.parts s.data.toList).region) := ⟨hL, hS, hR⟩
  clear hL hS hR
  have HB : Hid (Below w.heap.size w w1) := hb
  clear hb
  go_wp2_with fail
  go_quiet (fail)
  go_wp2
  refine bodyPost_ret (v := .tuple #[.string L, .string S, .string R, .int .i64 ((Pl.parts s.data.toList).le : Int), .int .i64 ((Pl.parts s.data.toList).se : Int), .int .i64 ((Pl.parts s.data.toList).re : Int), .bool (Pl.parts s.data.toList).ok]) (by simp [results, Try.results18, go_sem]) rfl ⟨⟨L, S, R, rfl, HQ.out⟩, ?_⟩
  exact below_drewN (HB.out.alloc HB.out.size _) _

end Go.Proofs.Qxb6603176a
