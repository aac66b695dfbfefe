/-
  The closed facts of the row of FnPartString. Conditions: none.
-/
import Derived.Test.YtnehkpoggkfikaaDoorBase
namespace Go.Proofs.YtnehkpoggkfikaaDoor
set_option maxHeartbeats 10000000 in
set_option maxRecDepth 100000 in
theorem closed8 : joinedFacts Tryd.prog 8 Tryd.f8 (OpenSpec.ofChange Rows.fnPartStringSpec).bare Rows.fnPartStringRow = true := by
  unfold joinedFacts
  simp only [Bool.and_eq_true]
  repeat' apply And.intro
  all_goals as_aux_lemma => kernel_rfl
set_option maxRecDepth 100000 in
theorem inst8 : Tryd.f8.isInstance Tryd.prog Rows.fnPartStringRow.origin Rows.fnPartStringRow.targs := of_decide_eq_true (by kernel_rfl)
set_option maxRecDepth 100000 in
theorem wrap8 : Tryd.f8.isWrapper Tryd.prog Rows.fnPartStringRow.wrapper Rows.fnPartStringRow.mainSum := by
  unfold Func.isWrapper
  first | (rw [if_neg (of_decide_eq_false (by kernel_rfl))]; exact ⟨rfl, rfl⟩) | (rw [if_pos (by decide +kernel)]; kernel_rfl)
theorem named8 : Tryd.prog.funcNamed Rows.fnPartStringRow.func = some 8 := by kernel_rfl
end Go.Proofs.YtnehkpoggkfikaaDoor
