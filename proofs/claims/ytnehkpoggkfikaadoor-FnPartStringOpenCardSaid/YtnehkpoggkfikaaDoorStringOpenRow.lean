/-
  Proved: FnPartStringOpen returns true for every text. Conditions: none beyond the given statement's own.
-/
import Derived.Test.YtnehkpoggkfikaaDoorBase
import Derived.Test.YtnehkpoggkfikaaDoorStringOpenClosed
import Derived.Test.YtnehkpoggkfikaaDoorLStrO
import Derived.Test.YtnehkpoggkfikaaDoorCards
import Derived.Test.YtnehkpoggkfikaaDoorTie
import Derived.OpenShut
import Derived.ShutString
import Derived.SevenTiedAt
namespace Go.Proofs.YtnehkpoggkfikaaDoor.fnPartStringOpen
open Go.ChangeShapes Go.WideShapes Go.ChangeAt Go.RowKit Go.Lib
open Go.ChangeMaps (open_string shut_string)
set_option linter.unusedVariables false

theorem witness_row (os : Os) {H : Type} (enc : TypeId × Value → H) :
    (OpenSpec.ofChange Rows.fnPartStringOpenSpec).preRow enc Tryd.prog Tryd.f9 Rows.fnPartStringOpenRow.domain false Rows.fnPartStringOpenRow.laid ((laidWorld os).forCall (fun _ _ => 0) ⟨#[], #[.string ⟨#[]⟩], []⟩).memory #[.string ⟨#[]⟩] := by
  have hw : (DataW.whole enc Tryd.prog ((laidWorld os).forCall (fun _ _ => 0) ⟨#[], #[.string ⟨#[]⟩], []⟩).memory Tryd.f9.params.toList (OpenSpec.ofChange Rows.fnPartStringOpenSpec).vars false #[Value.string ⟨#[]⟩].toList 8).map (fun x => (x.1, x.2.1)) =
      some ([.lit (.string [])], []) := by kernel_rfl
  obtain ⟨⟨x1, x2, x3⟩, hx, hx1⟩ := Option.map_eq_some_iff.1 hw
  simp only [Prod.mk.injEq] at hx1
  obtain ⟨rfl, rfl⟩ := hx1
  exact OpenSpec.preRow_of_cond 8 hx (by kernel_rfl) (fun k hk => by cases hk) (by kernel_rfl) (laid_met os _)

set_option maxRecDepth 100000 in
set_option maxHeartbeats 2000000 in
theorem lifted (os : Os) (started : os.Started) (H : Type) (enc : TypeId × Value → H) (F : Stop.Interp) :
    ReturnsInHanded {} Tryd.checked os 9 .any ((OpenSpec.ofChange Rows.fnPartStringOpenSpec).preRow enc Tryd.prog Tryd.f9 Rows.fnPartStringOpenRow.domain false Rows.fnPartStringOpenRow.laid) (((OpenSpec.ofChange Rows.fnPartStringOpenSpec).at F).post enc Tryd.prog Tryd.f9 false true false false) := by
  refine returnsInHanded_of_row (C := Tryd.checked) (s := OpenSpec.ofChange Rows.fnPartStringOpenSpec) own started (by kernel_rfl) Tryd.func9
    (witness_row_atRef (enc := enc) (C := Tryd.checked) false (laidWorld os) #[.string ⟨#[]⟩] rfl (by kernel_rfl) (by kernel_rfl) (by kernel_rfl) (witness_row os enc)) ?_
  intro W base args ds gs before hval0 hW _ _ _ hL hsh _
  have hval : ∀ (j : Nat) t v, Tryd.f9.params[j]? = some t → args[j]? = some v → Value.okWide Tryd.prog W .any base t v := hval0
  have hW' := hW
  obtain ⟨p, q, hA0, hV0, rfl, _, _⟩ := hW
  have hA : DataW.TrodAll enc Tryd.prog W 0 (fun _ => true) true Tryd.f9.params.toList args.toList ds p := hA0
  rw [Tryd.params9] at hA hval
  obtain ⟨v0, d0, rfl, rfl, h0⟩ := trodAll_one hA
  obtain ⟨rfl, rfl⟩ := trodVars_none hV0
  obtain ⟨x0, rfl, rfl, rfl, wx0⟩ := open_string Tryd.underlying9 (hval 0 9 v0 rfl rfl) h0
  clear hA0 hV0 hval0
  obtain ⟨ea, hG⟩ := glob_of_laid hL
  refine (fnStringOpen_calls x0 ea W  hG (shaped12 hsh)).mono ?_
  rintro e W' ⟨rfl, bel⟩
  have e1 : ((OpenSpec.ofChange Rows.fnPartStringOpenSpec).at F).fn H ([.lit (.string x0.data.toList)] ++ []) = { results := [.lit (.bool true)], args := [.lit (.string x0.data.toList)] } := rfl
  refine ⟨_, rfl, _, _, _, [], [], [], hW', ?_, ?_, ?_, bel.frame _, fun h => by cases h⟩
  · rw [e1]; exact trodAll_mk1 (shut_bool Tryd.underlying4 _)
  · rw [e1]; exact trodAll_mk1 (shut_string Tryd.underlying9 wx0)
  · rw [e1]; rfl

theorem over : Rows.fnPartStringOpenRow.holds Tryd.pinned (OpenSpec.ofChange Rows.fnPartStringOpenSpec) :=
  OpenClaim.holds_of_cond 9 Tryd.f9 rfl rfl rfl rfl rfl rfl rfl ⟨rfl, rfl, rfl, rfl, rfl⟩ rfl rfl rfl rfl rfl named9 Tryd.func9 closed9 inst9 wrap9
    (fun os started H enc _ F0 => by rw [OpenClaim.pre_eq_preRow]; exact lifted os started H enc F0)

/-- ████ THE STATEMENT ████ -/
theorem proved : Rows.FnPartStringOpenCardSaid :=
  Claim7.holds_tied_plain_at .later [] [.data, .sentinel, .sentinel, .pinned] true (true, "b5128e20423392c1a776c064341af5e2b37ac648f673b3f601849a425a383b9c") true
    over (fun _ h => by cases h) (by kernel_rfl) (fun _ h => by cases h) fnPartStringOpen_row_tie rfl ⟨rfl, rfl⟩ (by kernel_rfl) rfl
    (fun f fn hf hfn => by
      obtain rfl : f = 9 := Option.some.inj ((show Tryd.prog.funcNamed "loop.example/pub-g03120/laws.FnPartStringOpen" = some 9 by kernel_rfl).symm.trans hf) |>.symm
      obtain rfl : fn = Tryd.f9 := (Option.some.inj (Tryd.func9.symm.trans hfn)).symm
      exact ⟨by kernel_rfl, fun j t ht => by
        rw [Tryd.params9] at ht
        rcases j with _ | j
        · obtain rfl : 9 = t := by simpa using ht
          exact (show Tryd.prog.wantsStandIn 9 = false by kernel_rfl)
        · simp at ht⟩)
    (by kernel_rfl)
#print axioms proved
end Go.Proofs.YtnehkpoggkfikaaDoor.fnPartStringOpen
