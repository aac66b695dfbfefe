/-
  The closed facts of the row of FnPartName. Conditions: none.
-/
import Derived.Test.YtnehkpoggkfikaaDoorBase
namespace Go.Proofs.YtnehkpoggkfikaaDoor
set_option maxHeartbeats 10000000 in
set_option maxRecDepth 100000 in
theorem closed16 : joinedFacts Tryd.prog 16 Tryd.f16 (OpenSpec.ofChange Rows.fnPartNameSpec).bare Rows.fnPartNameRow = true := by
  unfold joinedFacts
  simp only [Bool.and_eq_true]
  repeat' apply And.intro
  all_goals as_aux_lemma => kernel_rfl
set_option maxRecDepth 100000 in
theorem inst16 : Tryd.f16.isInstance Tryd.prog Rows.fnPartNameRow.origin Rows.fnPartNameRow.targs := of_decide_eq_true (by kernel_rfl)
set_option maxRecDepth 100000 in
theorem wrap16 : Tryd.f16.isWrapper Tryd.prog Rows.fnPartNameRow.wrapper Rows.fnPartNameRow.mainSum := by
  unfold Func.isWrapper
  first | (rw [if_neg (of_decide_eq_false (by kernel_rfl))]; exact ⟨rfl, rfl⟩) | (rw [if_pos (by decide +kernel)]; kernel_rfl)
theorem named16 : Tryd.prog.funcNamed Rows.fnPartNameRow.func = some 16 := by kernel_rfl
end Go.Proofs.YtnehkpoggkfikaaDoor
