/-
  Proved: FnPartRuneOpen returns true for every text. Conditions: none beyond the given statement's own.
-/
import Derived.Test.YtnehkpoggkfikaaDoorBase
import Derived.Test.YtnehkpoggkfikaaDoorRuneOpenClosed
import Derived.Test.YtnehkpoggkfikaaDoorLRune
import Derived.Test.YtnehkpoggkfikaaDoorCards
import Derived.Test.YtnehkpoggkfikaaDoorTie
import Derived.OpenShut
import Derived.ShutString
import Derived.SevenTiedAt
namespace Go.Proofs.YtnehkpoggkfikaaDoor.fnPartRuneOpen
open Go.ChangeShapes Go.WideShapes Go.ChangeAt Go.RowKit Go.Lib
open Go.ChangeMaps (open_string shut_string)
set_option linter.unusedVariables false

theorem witness_row (os : Os) {H : Type} (enc : TypeId × Value → H) :
    (OpenSpec.ofChange Rows.fnPartRuneOpenSpec).preRow enc Tryd.prog Tryd.f11 Rows.fnPartRuneOpenRow.domain false Rows.fnPartRuneOpenRow.laid ((laidWorld os).forCall (fun _ _ => 0) ⟨#[], #[.string ⟨#[]⟩], []⟩).memory #[.string ⟨#[]⟩] := by
  have hw : (DataW.whole enc Tryd.prog ((laidWorld os).forCall (fun _ _ => 0) ⟨#[], #[.string ⟨#[]⟩], []⟩).memory Tryd.f11.params.toList (OpenSpec.ofChange Rows.fnPartRuneOpenSpec).vars false #[Value.string ⟨#[]⟩].toList 8).map (fun x => (x.1, x.2.1)) =
      some ([.lit (.string [])], []) := by kernel_rfl
  obtain ⟨⟨x1, x2, x3⟩, hx, hx1⟩ := Option.map_eq_some_iff.1 hw
  simp only [Prod.mk.injEq] at hx1
  obtain ⟨rfl, rfl⟩ := hx1
  exact OpenSpec.preRow_of_cond 8 hx (by kernel_rfl) (fun k hk => by cases hk) (by kernel_rfl) (laid_met os _)

set_option maxRecDepth 100000 in
set_option maxHeartbeats 2000000 in
theorem lifted (os : Os) (started : os.Started) (H : Type) (enc : TypeId × Value → H) (F : Stop.Interp) :
    ReturnsInHanded {} Tryd.checked os 11 .any ((OpenSpec.ofChange Rows.fnPartRuneOpenSpec).preRow enc Tryd.prog Tryd.f11 Rows.fnPartRuneOpenRow.domain false Rows.fnPartRuneOpenRow.laid) (((OpenSpec.ofChange Rows.fnPartRuneOpenSpec).at F).post enc Tryd.prog Tryd.f11 false true false false) := by
  refine returnsInHanded_of_row (C := Tryd.checked) (s := OpenSpec.ofChange Rows.fnPartRuneOpenSpec) own started (by kernel_rfl) Tryd.func11
    (witness_row_atRef (enc := enc) (C := Tryd.checked) false (laidWorld os) #[.string ⟨#[]⟩] rfl (by kernel_rfl) (by kernel_rfl) (by kernel_rfl) (witness_row os enc)) ?_
  intro W base args ds gs before hval0 hW _ _ _ hL hsh _
  have hval : ∀ (j : Nat) t v, Tryd.f11.params[j]? = some t → args[j]? = some v → Value.okWide Tryd.prog W .any base t v := hval0
  have hW' := hW
  obtain ⟨p, q, hA0, hV0, rfl, _, _⟩ := hW
  have hA : DataW.TrodAll enc Tryd.prog W 0 (fun _ => true) true Tryd.f11.params.toList args.toList ds p := hA0
  rw [Tryd.params11] at hA hval
  obtain ⟨v0, d0, rfl, rfl, h0⟩ := trodAll_one hA
  obtain ⟨rfl, rfl⟩ := trodVars_none hV0
  obtain ⟨x0, rfl, rfl, rfl, wx0⟩ := open_string Tryd.underlying9 (hval 0 9 v0 rfl rfl) h0
  clear hA0 hV0 hval0
  obtain ⟨ea, hG⟩ := glob_of_laid hL
  refine (fnRuneOpen_calls x0 ea W  hG (shaped12 hsh)).mono ?_
  rintro e W' ⟨rfl, bel⟩
  have e1 : ((OpenSpec.ofChange Rows.fnPartRuneOpenSpec).at F).fn H ([.lit (.string x0.data.toList)] ++ []) = { results := [.lit (.bool true)], args := [.lit (.string x0.data.toList)] } := rfl
  refine ⟨_, rfl, _, _, _, [], [], [], hW', ?_, ?_, ?_, bel.frame _, fun h => by cases h⟩
  · rw [e1]; exact trodAll_mk1 (shut_bool Tryd.underlying4 _)
  · rw [e1]; exact trodAll_mk1 (shut_string Tryd.underlying9 wx0)
  · rw [e1]; rfl

theorem over : Rows.fnPartRuneOpenRow.holds Tryd.pinned (OpenSpec.ofChange Rows.fnPartRuneOpenSpec) :=
  OpenClaim.holds_of_cond 11 Tryd.f11 rfl rfl rfl rfl rfl rfl rfl ⟨rfl, rfl, rfl, rfl, rfl⟩ rfl rfl rfl rfl rfl named11 Tryd.func11 closed11 inst11 wrap11
    (fun os started H enc _ F0 => by rw [OpenClaim.pre_eq_preRow]; exact lifted os started H enc F0)

/-- ████ THE STATEMENT ████ -/
theorem proved : Rows.FnPartRuneOpenCardSaid :=
  Claim7.holds_tied_plain_at .later [] [.data, .sentinel, .sentinel, .pinned] true (true, "b5128e20423392c1a776c064341af5e2b37ac648f673b3f601849a425a383b9c") true
    over (fun _ h => by cases h) (by kernel_rfl) (fun _ h => by cases h) fnPartRuneOpen_row_tie rfl ⟨rfl, rfl⟩ (by kernel_rfl) rfl
    (fun f fn hf hfn => by
      obtain rfl : f = 11 := Option.some.inj ((show Tryd.prog.funcNamed "loop.example/pub-g03120/laws.FnPartRuneOpen" = some 11 by kernel_rfl).symm.trans hf) |>.symm
      obtain rfl : fn = Tryd.f11 := (Option.some.inj (Tryd.func11.symm.trans hfn)).symm
      exact ⟨by kernel_rfl, fun j t ht => by
        rw [Tryd.params11] at ht
        rcases j with _ | j
        · obtain rfl : 9 = t := by simpa using ht
          exact (show Tryd.prog.wantsStandIn 9 = false by kernel_rfl)
        · simp at ht⟩)
    (by kernel_rfl)
#print axioms proved
end Go.Proofs.YtnehkpoggkfikaaDoor.fnPartRuneOpen
