/-
  The row's closed facts, each by the kernel, each a lemma of its own (the kernel gives its memory back behind each).
-/
import Derived.Test.Qxb6603176aRows
import Derived.JoinedOf
import Derived.KernelRfl
namespace Go.Proofs.Qxb6603176a.fnSplitAgreesWithNormalize

theorem both {a b : Bool} (ha : a = true) (hb : b = true) : (a && b) = true := by rw [ha, hb]; rfl

set_option maxHeartbeats 8000000 in
theorem closed : joinedFacts Try.prog 7 Try.f7 Rows.fnSplitAgreesWithNormalizeSpec Rows.fnSplitAgreesWithNormalizeRow = true := by
  unfold joinedFacts
  repeat' (with_reducible refine both ?_ ?_)
  all_goals (as_aux_lemma => kernel_rfl)

end Go.Proofs.Qxb6603176a.fnSplitAgreesWithNormalize
