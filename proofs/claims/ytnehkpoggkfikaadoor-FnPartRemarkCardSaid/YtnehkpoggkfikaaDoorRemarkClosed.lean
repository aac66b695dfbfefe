/-
  The closed facts of the row of FnPartRemark. Conditions: none.
-/
import Derived.Test.YtnehkpoggkfikaaDoorBase
namespace Go.Proofs.YtnehkpoggkfikaaDoor
set_option maxHeartbeats 10000000 in
set_option maxRecDepth 100000 in
theorem closed6 : joinedFacts Tryd.prog 6 Tryd.f6 (OpenSpec.ofChange Rows.fnPartRemarkSpec).bare Rows.fnPartRemarkRow = true := by
  unfold joinedFacts
  simp only [Bool.and_eq_true]
  repeat' apply And.intro
  all_goals as_aux_lemma => kernel_rfl
set_option maxRecDepth 100000 in
theorem inst6 : Tryd.f6.isInstance Tryd.prog Rows.fnPartRemarkRow.origin Rows.fnPartRemarkRow.targs := of_decide_eq_true (by kernel_rfl)
set_option maxRecDepth 100000 in
theorem wrap6 : Tryd.f6.isWrapper Tryd.prog Rows.fnPartRemarkRow.wrapper Rows.fnPartRemarkRow.mainSum := by
  unfold Func.isWrapper
  first | (rw [if_neg (of_decide_eq_false (by kernel_rfl))]; exact ⟨rfl, rfl⟩) | (rw [if_pos (by decide +kernel)]; kernel_rfl)
theorem named6 : Tryd.prog.funcNamed Rows.fnPartRemarkRow.func = some 6 := by kernel_rfl
end Go.Proofs.YtnehkpoggkfikaaDoor
