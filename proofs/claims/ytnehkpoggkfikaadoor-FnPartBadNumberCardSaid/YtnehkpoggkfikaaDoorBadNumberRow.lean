/-
  Proved: FnPartBadNumber returns true for every number, every kind and every tail. Conditions: none beyond the given statement's own.
-/
import Derived.Test.YtnehkpoggkfikaaDoorBase
import Derived.Test.YtnehkpoggkfikaaDoorBadNumberClosed
import Derived.Test.YtnehkpoggkfikaaDoorMBad
import Derived.Test.YtnehkpoggkfikaaDoorCards
import Derived.Test.YtnehkpoggkfikaaDoorTie
import Derived.OpenShut
import Derived.ShutString
import Derived.SevenTiedAt
namespace Go.Proofs.YtnehkpoggkfikaaDoor.fnPartBadNumber
open Go.ChangeShapes Go.WideShapes Go.ChangeAt Go.RowKit Go.Lib
open Go.ChangeMaps (open_string shut_string)
set_option linter.unusedVariables false

theorem witness_row (os : Os) {H : Type} (enc : TypeId × Value → H) :
    (OpenSpec.ofChange Rows.fnPartBadNumberSpec).preRow enc Tryd.prog Tryd.f12 Rows.fnPartBadNumberRow.domain false Rows.fnPartBadNumberRow.laid ((laidWorld os).forCall (fun _ _ => 0) ⟨#[], #[.int .u32 0, .int .u8 0, .int .u8 0], []⟩).memory #[.int .u32 0, .int .u8 0, .int .u8 0] := by
  have hw : (DataW.whole enc Tryd.prog ((laidWorld os).forCall (fun _ _ => 0) ⟨#[], #[.int .u32 0, .int .u8 0, .int .u8 0], []⟩).memory Tryd.f12.params.toList (OpenSpec.ofChange Rows.fnPartBadNumberSpec).vars false #[Value.int .u32 0, .int .u8 0, .int .u8 0].toList 8).map (fun x => (x.1, x.2.1)) =
      some ([.lit (.int .u32 0), .lit (.int .u8 0), .lit (.int .u8 0)], []) := by kernel_rfl
  obtain ⟨⟨x1, x2, x3⟩, hx, hx1⟩ := Option.map_eq_some_iff.1 hw
  simp only [Prod.mk.injEq] at hx1
  obtain ⟨rfl, rfl⟩ := hx1
  exact OpenSpec.preRow_of_cond 8 hx (by kernel_rfl) (fun k hk => by cases hk) (by kernel_rfl) (laid_met os _)

set_option maxRecDepth 100000 in
set_option maxHeartbeats 2000000 in
theorem lifted (os : Os) (started : os.Started) (H : Type) (enc : TypeId × Value → H) (F : Stop.Interp) :
    ReturnsInHanded {} Tryd.checked os 12 .any ((OpenSpec.ofChange Rows.fnPartBadNumberSpec).preRow enc Tryd.prog Tryd.f12 Rows.fnPartBadNumberRow.domain false Rows.fnPartBadNumberRow.laid) (((OpenSpec.ofChange Rows.fnPartBadNumberSpec).at F).post enc Tryd.prog Tryd.f12 false true false false) := by
  refine returnsInHanded_of_row (C := Tryd.checked) (s := OpenSpec.ofChange Rows.fnPartBadNumberSpec) own started (by kernel_rfl) Tryd.func12
    (witness_row_atRef (enc := enc) (C := Tryd.checked) false (laidWorld os) #[.int .u32 0, .int .u8 0, .int .u8 0] rfl (by kernel_rfl) (by kernel_rfl) (by kernel_rfl) (witness_row os enc)) ?_
  intro W base args ds gs before hval0 hW _ _ _ hL hsh _
  have hval : ∀ (j : Nat) t v, Tryd.f12.params[j]? = some t → args[j]? = some v → Value.okWide Tryd.prog W .any base t v := hval0
  have hW' := hW
  obtain ⟨p, q, hA0, hV0, rfl, _, _⟩ := hW
  have hA : DataW.TrodAll enc Tryd.prog W 0 (fun _ => true) true Tryd.f12.params.toList args.toList ds p := hA0
  rw [Tryd.params12] at hA hval
  obtain ⟨v0, vs0, d0, ds0, p0, q0, hargs0, rfl, rfl, h0, r0⟩ := trodAll_cons hA
  obtain ⟨v1, vs1, d1, ds1, p1, q1, hargs1, rfl, rfl, h1, r1⟩ := trodAll_cons r0
  obtain ⟨v2, vs2, d2, ds2, p2, q2, hargs2, rfl, rfl, h2, r2⟩ := trodAll_cons r1
  obtain ⟨rfl, rfl, rfl⟩ := trodAll_nil r2
  obtain rfl : args = #[v0, v1, v2] := by cases args; simp_all
  obtain ⟨rfl, rfl⟩ := trodVars_none hV0
  obtain ⟨x0, rfl, rfl, rfl, wx0⟩ := open_int Tryd.underlying40 (hval 0 40 v0 rfl rfl) h0
  obtain ⟨x1, rfl, rfl, rfl, wx1⟩ := open_int Tryd.underlying5 (hval 1 5 v1 rfl rfl) h1
  obtain ⟨x2, rfl, rfl, rfl, wx2⟩ := open_int Tryd.underlying5 (hval 2 5 v2 rfl rfl) h2
  clear hA0 hV0 hval0
  obtain ⟨ea, hG⟩ := glob_of_laid hL
  have hn0 : 0 ≤ x0 ∧ x0 < 4294967296 := by
    simp [Lit.wf, IntKind.min, IntKind.max, IntKind.signed, IntKind.bits] at wx0
    omega
  have hn1 : 0 ≤ x1 ∧ x1 < 256 := by
    simp [Lit.wf, IntKind.min, IntKind.max, IntKind.signed, IntKind.bits] at wx1
    omega
  have hn2 : 0 ≤ x2 ∧ x2 < 256 := by
    simp [Lit.wf, IntKind.min, IntKind.max, IntKind.signed, IntKind.bits] at wx2
    omega
  refine (fnBad_calls x0 x1 x2 ea W hn0.1 hn0.2 hn1.1 hn1.2 hn2.1 hn2.2 hG (shaped12 hsh)).mono ?_
  rintro e W' ⟨rfl, bel⟩
  have e1 : ((OpenSpec.ofChange Rows.fnPartBadNumberSpec).at F).fn H ([.lit (.int .u32 x0), .lit (.int .u8 x1), .lit (.int .u8 x2)] ++ []) = { results := [.lit (.bool true)], args := [.lit (.int .u32 x0), .lit (.int .u8 x1), .lit (.int .u8 x2)] } := rfl
  refine ⟨_, rfl, _, _, _, [], [], [], hW', ?_, ?_, ?_, bel.frame _, fun h => by cases h⟩
  · rw [e1]; exact trodAll_mk1 (shut_bool Tryd.underlying4 _)
  · rw [e1]; exact trodAll_cons_mk (shut_int Tryd.underlying40 wx0) (trodAll_cons_mk (shut_int Tryd.underlying5 wx1) (trodAll_cons_mk (shut_int Tryd.underlying5 wx2) trodAll_mk0))
  · rw [e1]; rfl

theorem over : Rows.fnPartBadNumberRow.holds Tryd.pinned (OpenSpec.ofChange Rows.fnPartBadNumberSpec) :=
  OpenClaim.holds_of_cond 12 Tryd.f12 rfl rfl rfl rfl rfl rfl rfl ⟨rfl, rfl, rfl, rfl, rfl⟩ rfl rfl rfl rfl rfl named12 Tryd.func12 closed12 inst12 wrap12
    (fun os started H enc _ F0 => by rw [OpenClaim.pre_eq_preRow]; exact lifted os started H enc F0)

/-- ████ THE STATEMENT ████ -/
theorem proved : Rows.FnPartBadNumberCardSaid :=
  Claim7.holds_tied_plain_at .later [] [.data, .sentinel, .sentinel, .pinned] true (true, "b5128e20423392c1a776c064341af5e2b37ac648f673b3f601849a425a383b9c") true
    over (fun _ h => by cases h) (by kernel_rfl) (fun _ h => by cases h) fnPartBadNumber_row_tie rfl ⟨rfl, rfl⟩ (by kernel_rfl) rfl
    (fun f fn hf hfn => by
      obtain rfl : f = 12 := Option.some.inj ((show Tryd.prog.funcNamed "loop.example/pub-g03120/laws.FnPartBadNumber" = some 12 by kernel_rfl).symm.trans hf) |>.symm
      obtain rfl : fn = Tryd.f12 := (Option.some.inj (Tryd.func12.symm.trans hfn)).symm
      exact ⟨by kernel_rfl, fun j t ht => by
        rw [Tryd.params12] at ht
        rcases j with _ | _ | _ | j
        · obtain rfl : 40 = t := by simpa using ht
          exact (show Tryd.prog.wantsStandIn 40 = false by kernel_rfl)
        · obtain rfl : 5 = t := by simpa using ht
          exact (show Tryd.prog.wantsStandIn 5 = false by kernel_rfl)
        · obtain rfl : 5 = t := by simpa using ht
          exact (show Tryd.prog.wantsStandIn 5 = false by kernel_rfl)
        · simp at ht⟩)
    (by kernel_rfl)
#print axioms proved
end Go.Proofs.YtnehkpoggkfikaaDoor.fnPartBadNumber
