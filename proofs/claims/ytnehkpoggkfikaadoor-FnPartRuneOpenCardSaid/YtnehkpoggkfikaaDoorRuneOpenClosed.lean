/-
  The closed facts of the row of FnPartRuneOpen. Conditions: none.
-/
import Derived.Test.YtnehkpoggkfikaaDoorBase
namespace Go.Proofs.YtnehkpoggkfikaaDoor
set_option maxHeartbeats 10000000 in
set_option maxRecDepth 100000 in
theorem closed11 : joinedFacts Tryd.prog 11 Tryd.f11 (OpenSpec.ofChange Rows.fnPartRuneOpenSpec).bare Rows.fnPartRuneOpenRow = true := by
  unfold joinedFacts
  simp only [Bool.and_eq_true]
  repeat' apply And.intro
  all_goals as_aux_lemma => kernel_rfl
set_option maxRecDepth 100000 in
theorem inst11 : Tryd.f11.isInstance Tryd.prog Rows.fnPartRuneOpenRow.origin Rows.fnPartRuneOpenRow.targs := of_decide_eq_true (by kernel_rfl)
set_option maxRecDepth 100000 in
theorem wrap11 : Tryd.f11.isWrapper Tryd.prog Rows.fnPartRuneOpenRow.wrapper Rows.fnPartRuneOpenRow.mainSum := by
  unfold Func.isWrapper
  first | (rw [if_neg (of_decide_eq_false (by kernel_rfl))]; exact ⟨rfl, rfl⟩) | (rw [if_pos (by decide +kernel)]; kernel_rfl)
theorem named11 : Tryd.prog.funcNamed Rows.fnPartRuneOpenRow.func = some 11 := by kernel_rfl
end Go.Proofs.YtnehkpoggkfikaaDoor
