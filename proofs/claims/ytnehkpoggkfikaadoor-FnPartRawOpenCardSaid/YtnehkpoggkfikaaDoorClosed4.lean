/-
  The closed facts of the open raw string's row. Conditions: none.
-/
import Derived.Test.YtnehkpoggkfikaaDoorBase
namespace Go.Proofs.YtnehkpoggkfikaaDoor
set_option maxHeartbeats 10000000 in
set_option maxRecDepth 100000 in
theorem closed4 : joinedFacts Tryd.prog 4 Tryd.f4 (OpenSpec.ofChange Rows.fnPartRawOpenSpec).bare Rows.fnPartRawOpenRow = true := by
  unfold joinedFacts
  simp only [Bool.and_eq_true]
  repeat' apply And.intro
  all_goals as_aux_lemma => kernel_rfl
set_option maxRecDepth 100000 in
theorem inst4 : Tryd.f4.isInstance Tryd.prog Rows.fnPartRawOpenRow.origin Rows.fnPartRawOpenRow.targs := of_decide_eq_true (by kernel_rfl)
set_option maxRecDepth 100000 in
theorem wrap4 : Tryd.f4.isWrapper Tryd.prog Rows.fnPartRawOpenRow.wrapper Rows.fnPartRawOpenRow.mainSum := by
  unfold Func.isWrapper
  first | (rw [if_neg (of_decide_eq_false (by kernel_rfl))]; exact ⟨rfl, rfl⟩) | (rw [if_pos (by decide +kernel)]; kernel_rfl)
theorem named4 : Tryd.prog.funcNamed Rows.fnPartRawOpenRow.func = some 4 := by kernel_rfl
end Go.Proofs.YtnehkpoggkfikaaDoor
