/-
  The closed facts of the row of FnPartNumber. Conditions: none.
-/
import Derived.Test.YtnehkpoggkfikaaDoorBase
namespace Go.Proofs.YtnehkpoggkfikaaDoor
set_option maxHeartbeats 10000000 in
set_option maxRecDepth 100000 in
theorem closed13 : joinedFacts Tryd.prog 13 Tryd.f13 (OpenSpec.ofChange Rows.fnPartNumberSpec).bare Rows.fnPartNumberRow = true := by
  unfold joinedFacts
  simp only [Bool.and_eq_true]
  repeat' apply And.intro
  all_goals as_aux_lemma => kernel_rfl
set_option maxRecDepth 100000 in
theorem inst13 : Tryd.f13.isInstance Tryd.prog Rows.fnPartNumberRow.origin Rows.fnPartNumberRow.targs := of_decide_eq_true (by kernel_rfl)
set_option maxRecDepth 100000 in
theorem wrap13 : Tryd.f13.isWrapper Tryd.prog Rows.fnPartNumberRow.wrapper Rows.fnPartNumberRow.mainSum := by
  unfold Func.isWrapper
  first | (rw [if_neg (of_decide_eq_false (by kernel_rfl))]; exact ⟨rfl, rfl⟩) | (rw [if_pos (by decide +kernel)]; kernel_rfl)
theorem named13 : Tryd.prog.funcNamed Rows.fnPartNumberRow.func = some 13 := by kernel_rfl
end Go.Proofs.YtnehkpoggkfikaaDoor
