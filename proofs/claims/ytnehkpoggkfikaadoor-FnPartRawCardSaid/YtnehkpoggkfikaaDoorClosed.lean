/-
  The closed facts of the raw strings' rows. Conditions: none.
-/
import Derived.Test.YtnehkpoggkfikaaDoorBase
namespace Go.Proofs.YtnehkpoggkfikaaDoor
set_option maxHeartbeats 10000000 in
set_option maxRecDepth 100000 in
theorem closed3 : joinedFacts Tryd.prog 3 Tryd.f3 (OpenSpec.ofChange Rows.fnPartRawSpec).bare Rows.fnPartRawRow = true := by
  unfold joinedFacts
  simp only [Bool.and_eq_true]
  repeat' apply And.intro
  all_goals as_aux_lemma => kernel_rfl
set_option maxRecDepth 100000 in
theorem inst3 : Tryd.f3.isInstance Tryd.prog Rows.fnPartRawRow.origin Rows.fnPartRawRow.targs := of_decide_eq_true (by kernel_rfl)
set_option maxRecDepth 100000 in
theorem wrap3 : Tryd.f3.isWrapper Tryd.prog Rows.fnPartRawRow.wrapper Rows.fnPartRawRow.mainSum := by
  unfold Func.isWrapper
  first | (rw [if_neg (of_decide_eq_false (by kernel_rfl))]; exact ⟨rfl, rfl⟩) | (rw [if_pos (by decide +kernel)]; kernel_rfl)
theorem named3 : Tryd.prog.funcNamed Rows.fnPartRawRow.func = some 3 := by kernel_rfl
end Go.Proofs.YtnehkpoggkfikaaDoor
