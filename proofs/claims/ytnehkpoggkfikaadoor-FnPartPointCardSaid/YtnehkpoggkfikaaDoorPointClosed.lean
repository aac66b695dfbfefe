/-
  The closed facts of the row of FnPartPoint. Conditions: none.
-/
import Derived.Test.YtnehkpoggkfikaaDoorBase
namespace Go.Proofs.YtnehkpoggkfikaaDoor
set_option maxHeartbeats 10000000 in
set_option maxRecDepth 100000 in
theorem closed14 : joinedFacts Tryd.prog 14 Tryd.f14 (OpenSpec.ofChange Rows.fnPartPointSpec).bare Rows.fnPartPointRow = true := by
  unfold joinedFacts
  simp only [Bool.and_eq_true]
  repeat' apply And.intro
  all_goals as_aux_lemma => kernel_rfl
set_option maxRecDepth 100000 in
theorem inst14 : Tryd.f14.isInstance Tryd.prog Rows.fnPartPointRow.origin Rows.fnPartPointRow.targs := of_decide_eq_true (by kernel_rfl)
set_option maxRecDepth 100000 in
theorem wrap14 : Tryd.f14.isWrapper Tryd.prog Rows.fnPartPointRow.wrapper Rows.fnPartPointRow.mainSum := by
  unfold Func.isWrapper
  first | (rw [if_neg (of_decide_eq_false (by kernel_rfl))]; exact ⟨rfl, rfl⟩) | (rw [if_pos (by decide +kernel)]; kernel_rfl)
theorem named14 : Tryd.prog.funcNamed Rows.fnPartPointRow.func = some 14 := by kernel_rfl
end Go.Proofs.YtnehkpoggkfikaaDoor
