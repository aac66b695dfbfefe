/-
  The closed facts of the row of FnPartEscape. Conditions: none.
-/
import Derived.Test.YtnehkpoggkfikaaDoorBase
namespace Go.Proofs.YtnehkpoggkfikaaDoor
set_option maxHeartbeats 10000000 in
set_option maxRecDepth 100000 in
theorem closed7 : joinedFacts Tryd.prog 7 Tryd.f7 (OpenSpec.ofChange Rows.fnPartEscapeSpec).bare Rows.fnPartEscapeRow = true := by
  unfold joinedFacts
  simp only [Bool.and_eq_true]
  repeat' apply And.intro
  all_goals as_aux_lemma => kernel_rfl
set_option maxRecDepth 100000 in
theorem inst7 : Tryd.f7.isInstance Tryd.prog Rows.fnPartEscapeRow.origin Rows.fnPartEscapeRow.targs := of_decide_eq_true (by kernel_rfl)
set_option maxRecDepth 100000 in
theorem wrap7 : Tryd.f7.isWrapper Tryd.prog Rows.fnPartEscapeRow.wrapper Rows.fnPartEscapeRow.mainSum := by
  unfold Func.isWrapper
  first | (rw [if_neg (of_decide_eq_false (by kernel_rfl))]; exact ⟨rfl, rfl⟩) | (rw [if_pos (by decide +kernel)]; kernel_rfl)
theorem named7 : Tryd.prog.funcNamed Rows.fnPartEscapeRow.func = some 7 := by kernel_rfl
end Go.Proofs.YtnehkpoggkfikaaDoor
