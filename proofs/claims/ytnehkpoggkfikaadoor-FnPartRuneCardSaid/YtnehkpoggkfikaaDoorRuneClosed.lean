/-
  The closed facts of the row of FnPartRune. Conditions: none.
-/
import Derived.Test.YtnehkpoggkfikaaDoorBase
namespace Go.Proofs.YtnehkpoggkfikaaDoor
set_option maxHeartbeats 10000000 in
set_option maxRecDepth 100000 in
theorem closed10 : joinedFacts Tryd.prog 10 Tryd.f10 (OpenSpec.ofChange Rows.fnPartRuneSpec).bare Rows.fnPartRuneRow = true := by
  unfold joinedFacts
  simp only [Bool.and_eq_true]
  repeat' apply And.intro
  all_goals as_aux_lemma => kernel_rfl
set_option maxRecDepth 100000 in
theorem inst10 : Tryd.f10.isInstance Tryd.prog Rows.fnPartRuneRow.origin Rows.fnPartRuneRow.targs := of_decide_eq_true (by kernel_rfl)
set_option maxRecDepth 100000 in
theorem wrap10 : Tryd.f10.isWrapper Tryd.prog Rows.fnPartRuneRow.wrapper Rows.fnPartRuneRow.mainSum := by
  unfold Func.isWrapper
  first | (rw [if_neg (of_decide_eq_false (by kernel_rfl))]; exact ⟨rfl, rfl⟩) | (rw [if_pos (by decide +kernel)]; kernel_rfl)
theorem named10 : Tryd.prog.funcNamed Rows.fnPartRuneRow.func = some 10 := by kernel_rfl
end Go.Proofs.YtnehkpoggkfikaaDoor
