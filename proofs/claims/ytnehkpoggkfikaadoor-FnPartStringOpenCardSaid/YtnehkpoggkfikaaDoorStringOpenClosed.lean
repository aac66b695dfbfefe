/-
  The closed facts of the row of FnPartStringOpen. Conditions: none.
-/
import Derived.Test.YtnehkpoggkfikaaDoorBase
namespace Go.Proofs.YtnehkpoggkfikaaDoor
set_option maxHeartbeats 10000000 in
set_option maxRecDepth 100000 in
theorem closed9 : joinedFacts Tryd.prog 9 Tryd.f9 (OpenSpec.ofChange Rows.fnPartStringOpenSpec).bare Rows.fnPartStringOpenRow = true := by
  unfold joinedFacts
  simp only [Bool.and_eq_true]
  repeat' apply And.intro
  all_goals as_aux_lemma => kernel_rfl
set_option maxRecDepth 100000 in
theorem inst9 : Tryd.f9.isInstance Tryd.prog Rows.fnPartStringOpenRow.origin Rows.fnPartStringOpenRow.targs := of_decide_eq_true (by kernel_rfl)
set_option maxRecDepth 100000 in
theorem wrap9 : Tryd.f9.isWrapper Tryd.prog Rows.fnPartStringOpenRow.wrapper Rows.fnPartStringOpenRow.mainSum := by
  unfold Func.isWrapper
  first | (rw [if_neg (of_decide_eq_false (by kernel_rfl))]; exact ⟨rfl, rfl⟩) | (rw [if_pos (by decide +kernel)]; kernel_rfl)
theorem named9 : Tryd.prog.funcNamed Rows.fnPartStringOpenRow.func = some 9 := by kernel_rfl
end Go.Proofs.YtnehkpoggkfikaaDoor
