/-
  The closed facts of the row of FnPartBadNumber. Conditions: none.
-/
import Derived.Test.YtnehkpoggkfikaaDoorBase
namespace Go.Proofs.YtnehkpoggkfikaaDoor
set_option maxHeartbeats 10000000 in
set_option maxRecDepth 100000 in
theorem closed12 : joinedFacts Tryd.prog 12 Tryd.f12 (OpenSpec.ofChange Rows.fnPartBadNumberSpec).bare Rows.fnPartBadNumberRow = true := by
  unfold joinedFacts
  simp only [Bool.and_eq_true]
  repeat' apply And.intro
  all_goals as_aux_lemma => kernel_rfl
set_option maxRecDepth 100000 in
theorem inst12 : Tryd.f12.isInstance Tryd.prog Rows.fnPartBadNumberRow.origin Rows.fnPartBadNumberRow.targs := of_decide_eq_true (by kernel_rfl)
set_option maxRecDepth 100000 in
theorem wrap12 : Tryd.f12.isWrapper Tryd.prog Rows.fnPartBadNumberRow.wrapper Rows.fnPartBadNumberRow.mainSum := by
  unfold Func.isWrapper
  first | (rw [if_neg (of_decide_eq_false (by kernel_rfl))]; exact ⟨rfl, rfl⟩) | (rw [if_pos (by decide +kernel)]; kernel_rfl)
theorem named12 : Tryd.prog.funcNamed Rows.fnPartBadNumberRow.func = some 12 := by kernel_rfl
end Go.Proofs.YtnehkpoggkfikaaDoor
