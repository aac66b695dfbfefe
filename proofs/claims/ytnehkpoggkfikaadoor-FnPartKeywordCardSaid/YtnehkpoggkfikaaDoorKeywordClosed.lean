/-
  The closed facts of the row of FnPartKeyword. Conditions: none.
-/
import Derived.Test.YtnehkpoggkfikaaDoorBase
namespace Go.Proofs.YtnehkpoggkfikaaDoor
set_option maxHeartbeats 10000000 in
set_option maxRecDepth 100000 in
theorem closed15 : joinedFacts Tryd.prog 15 Tryd.f15 (OpenSpec.ofChange Rows.fnPartKeywordSpec).bare Rows.fnPartKeywordRow = true := by
  unfold joinedFacts
  simp only [Bool.and_eq_true]
  repeat' apply And.intro
  all_goals as_aux_lemma => kernel_rfl
set_option maxRecDepth 100000 in
theorem inst15 : Tryd.f15.isInstance Tryd.prog Rows.fnPartKeywordRow.origin Rows.fnPartKeywordRow.targs := of_decide_eq_true (by kernel_rfl)
set_option maxRecDepth 100000 in
theorem wrap15 : Tryd.f15.isWrapper Tryd.prog Rows.fnPartKeywordRow.wrapper Rows.fnPartKeywordRow.mainSum := by
  unfold Func.isWrapper
  first | (rw [if_neg (of_decide_eq_false (by kernel_rfl))]; exact ⟨rfl, rfl⟩) | (rw [if_pos (by decide +kernel)]; kernel_rfl)
theorem named15 : Tryd.prog.funcNamed Rows.fnPartKeywordRow.func = some 15 := by kernel_rfl
end Go.Proofs.YtnehkpoggkfikaaDoor
