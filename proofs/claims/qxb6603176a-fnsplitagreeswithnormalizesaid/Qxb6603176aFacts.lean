/-
  The row's closed facts, each by the kernel, each a lemma of its own (the kernel gives its memory back behind each).
  Three of them ask the first words of the dump's head: there 'String.toList' of a long text is dear (10 GB): the text is taken as its list of signs instead.
-/
import Derived.Test.Qxb6603176aRows
import Derived.JoinedOf
import Derived.KernelRfl
namespace Go.Proofs.Qxb6603176a.fnSplitAgreesWithNormalize

set_option maxRecDepth 100000 in
/-- The dump's head, as signs. -/
def initL : { L : List Char // Try.progTables.initOrder = String.ofList L } := ⟨_, rfl⟩
theorem initL_eq : Try.prog.initOrder.toList = initL.1 := (congrArg String.toList initL.2).trans String.toList_ofList
theorem words0 : behindMainWord (wordsSigns initL.1) = ['c', 'u', 't'] :: (behindMainWord (wordsSigns initL.1)).tail := by kernel_rfl
theorem words : ∃ r, behindMainWord (wordsSigns Try.prog.initOrder.toList) = ['c', 'u', 't'] :: r := ⟨(behindMainWord (wordsSigns initL.1)).tail, (congrArg (fun l => behindMainWord (wordsSigns l)) initL_eq).trans words0⟩

theorem strip_cut (r : List (List Char)) : stripLifts liftWords (['c', 'u', 't'] :: r) = ([], ['c', 'u', 't'] :: r) := by rfl
theorem make_cut (P : Program) (r : List (List Char)) (h : behindMainWord (wordsSigns P.initOrder.toList) = ['c', 'u', 't'] :: r) : P.make = some .cut := by
  unfold Program.make
  rw [h]
  rfl
theorem lifts_cut (P : Program) (r : List (List Char)) (h : behindMainWord (wordsSigns P.initOrder.toList) = ['c', 'u', 't'] :: r) : P.liftsFinal = false := by
  unfold Program.liftsFinal Program.headLifts
  rw [h, strip_cut]
  rfl
theorem enter_cut (P : Program) (r : List (List Char)) (h : behindMainWord (wordsSigns P.initOrder.toList) = ['c', 'u', 't'] :: r) (h1 : P.laysLater = false) (h2 : P.bearsReflect = false) (h3 : P.doorFits [] = true) : P.mayEnter = true := by
  unfold Program.mayEnter
  rw [h]
  show (_ || _) = true
  rw [strip_cut, h1, h2, h3]
  rfl

theorem f_enter : Try.prog.mayEnter = true := by
  obtain ⟨r, h⟩ := words
  exact enter_cut _ r h (by kernel_rfl) (by kernel_rfl) (by kernel_rfl)
theorem f_lifts : Try.prog.liftsFinal = false := by
  obtain ⟨r, h⟩ := words
  exact lifts_cut _ r h
theorem f_make : Try.prog.make = some .cut := by
  obtain ⟨r, h⟩ := words
  exact make_cut _ r h
theorem c_lifts : (Rows.fnSplitAgreesWithNormalizeRow.lifted == Try.prog.liftsFinal) = true := congrArg (fun b => Rows.fnSplitAgreesWithNormalizeRow.lifted == b) f_lifts
theorem c_make : (Try.prog.make == some Rows.fnSplitAgreesWithNormalizeRow.make) = true := congrArg (fun m => m == some Rows.fnSplitAgreesWithNormalizeRow.make) f_make

theorem both {a b : Bool} (ha : a = true) (hb : b = true) : (a && b) = true := by rw [ha, hb]; rfl

set_option maxHeartbeats 8000000 in
theorem closed : joinedFacts Try.prog 7 Try.f7 Rows.fnSplitAgreesWithNormalizeSpec Rows.fnSplitAgreesWithNormalizeRow = true := by
  unfold joinedFacts
  repeat' (with_reducible refine both ?_ ?_)
  all_goals first | (with_reducible exact f_enter) | (with_reducible exact c_lifts) | (with_reducible exact c_make) | (as_aux_lemma => kernel_rfl)

end Go.Proofs.Qxb6603176a.fnSplitAgreesWithNormalize
