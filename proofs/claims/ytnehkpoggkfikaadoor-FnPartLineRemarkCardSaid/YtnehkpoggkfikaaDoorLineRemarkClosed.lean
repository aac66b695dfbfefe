/-
  The closed facts of the row of FnPartLineRemark. Conditions: none.
-/
import Derived.Test.YtnehkpoggkfikaaDoorBase
namespace Go.Proofs.YtnehkpoggkfikaaDoor
set_option maxHeartbeats 10000000 in
set_option maxRecDepth 100000 in
theorem closed5 : joinedFacts Tryd.prog 5 Tryd.f5 (OpenSpec.ofChange Rows.fnPartLineRemarkSpec).bare Rows.fnPartLineRemarkRow = true := by
  unfold joinedFacts
  simp only [Bool.and_eq_true]
  repeat' apply And.intro
  all_goals as_aux_lemma => kernel_rfl
set_option maxRecDepth 100000 in
theorem inst5 : Tryd.f5.isInstance Tryd.prog Rows.fnPartLineRemarkRow.origin Rows.fnPartLineRemarkRow.targs := of_decide_eq_true (by kernel_rfl)
set_option maxRecDepth 100000 in
theorem wrap5 : Tryd.f5.isWrapper Tryd.prog Rows.fnPartLineRemarkRow.wrapper Rows.fnPartLineRemarkRow.mainSum := by
  unfold Func.isWrapper
  first | (rw [if_neg (of_decide_eq_false (by kernel_rfl))]; exact ⟨rfl, rfl⟩) | (rw [if_pos (by decide +kernel)]; kernel_rfl)
theorem named5 : Tryd.prog.funcNamed Rows.fnPartLineRemarkRow.func = some 5 := by kernel_rfl
end Go.Proofs.YtnehkpoggkfikaaDoor
