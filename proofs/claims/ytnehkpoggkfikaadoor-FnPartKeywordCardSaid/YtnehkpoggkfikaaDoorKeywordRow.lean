/-
  Proved: FnPartKeyword returns true for every byte and every byte. Conditions: none beyond the given statement's own.
-/
import Derived.Test.YtnehkpoggkfikaaDoorBase
import Derived.Test.YtnehkpoggkfikaaDoorBaseI
import Derived.Test.YtnehkpoggkfikaaDoorKeywordClosed
import Derived.Test.YtnehkpoggkfikaaDoorLKey
import Derived.Test.YtnehkpoggkfikaaDoorCards
import Derived.Test.YtnehkpoggkfikaaDoorTie
import Derived.OpenShut
import Derived.ShutString
import Derived.SevenTiedAt
namespace Go.Proofs.YtnehkpoggkfikaaDoor.fnPartKeyword
open Go.ChangeShapes Go.WideShapes Go.ChangeAt Go.RowKit Go.Lib
open Go.ChangeMaps (open_string shut_string)
set_option linter.unusedVariables false

theorem witness_row (os : Os) {H : Type} (enc : TypeId × Value → H) :
    (OpenSpec.ofChange Rows.fnPartKeywordSpec).preRow enc Tryd.prog Tryd.f15 Rows.fnPartKeywordRow.domain false Rows.fnPartKeywordRow.laid ((laidWorldI os).forCall (fun _ _ => 0) ⟨#[], #[.int .u8 0, .int .u8 0], []⟩).memory #[.int .u8 0, .int .u8 0] := by
  have hw : (DataW.whole enc Tryd.prog ((laidWorldI os).forCall (fun _ _ => 0) ⟨#[], #[.int .u8 0, .int .u8 0], []⟩).memory Tryd.f15.params.toList (OpenSpec.ofChange Rows.fnPartKeywordSpec).vars false #[Value.int .u8 0, .int .u8 0].toList 8).map (fun x => (x.1, x.2.1)) =
      some ([.lit (.int .u8 0), .lit (.int .u8 0)], [tixH]) := by kernel_rfl
  obtain ⟨⟨x1, x2, x3⟩, hx, hx1⟩ := Option.map_eq_some_iff.1 hw
  simp only [Prod.mk.injEq] at hx1
  obtain ⟨rfl, rfl⟩ := hx1
  exact OpenSpec.preRow_of_cond 8 hx (by kernel_rfl) (fun k hk => by cases hk) (by kernel_rfl) (laid_metI os _)

set_option maxRecDepth 100000 in
set_option maxHeartbeats 2000000 in
theorem lifted (os : Os) (started : os.Started) (H : Type) (enc : TypeId × Value → H) (F : Stop.Interp) :
    ReturnsInHanded {} Tryd.checked os 15 .any ((OpenSpec.ofChange Rows.fnPartKeywordSpec).preRow enc Tryd.prog Tryd.f15 Rows.fnPartKeywordRow.domain false Rows.fnPartKeywordRow.laid) (((OpenSpec.ofChange Rows.fnPartKeywordSpec).at F).post enc Tryd.prog Tryd.f15 false true false false) := by
  refine returnsInHanded_of_row (C := Tryd.checked) (s := OpenSpec.ofChange Rows.fnPartKeywordSpec) own started (by kernel_rfl) Tryd.func15
    (witness_row_atRef (enc := enc) (C := Tryd.checked) false (laidWorldI os) #[.int .u8 0, .int .u8 0] (World.laidAll_os _ _ _) (by kernel_rfl) (by kernel_rfl) (by kernel_rfl) (witness_row os enc)) ?_
  intro W base args ds gs before hval0 hW _ _ _ hL hsh _
  have hval : ∀ (j : Nat) t v, Tryd.f15.params[j]? = some t → args[j]? = some v → Value.okWide Tryd.prog W .any base t v := hval0
  have hW' := hW
  obtain ⟨p, q, hA0, hV0, rfl, _, _⟩ := hW
  have hA : DataW.TrodAll enc Tryd.prog W 0 (fun _ => true) true Tryd.f15.params.toList args.toList ds p := hA0
  rw [Tryd.params15] at hA hval
  obtain ⟨v0, vs0, d0, ds0, p0, q0, hargs0, rfl, rfl, h0, r0⟩ := trodAll_cons hA
  obtain ⟨v1, vs1, d1, ds1, p1, q1, hargs1, rfl, rfl, h1, r1⟩ := trodAll_cons r0
  obtain ⟨rfl, rfl, rfl⟩ := trodAll_nil r1
  obtain rfl : args = #[v0, v1] := by cases args; simp_all
  have hV : DataW.TrodVars enc Tryd.prog W (fun _ => true) ["loop.example/pub-g03120/pub/gosyntax._token_index"] gs q := hV0
  obtain ⟨g, t, cs, fuel, d, p', rfl, hg, ht, hvar, hd, rfl⟩ := trodVars_one hV
  obtain rfl := Option.some.inj (tix_name.symm.trans hg)
  obtain rfl := Option.some.inj (tix_type.symm.trans ht)
  obtain rfl : cs = tixC := Option.some.inj (hvar.symm.trans (show _ = some tixC from idx_of_laid hL))
  obtain ⟨rfl, rfl⟩ := DataW.Trod.unique (v := .agg tixC) ⟨fuel, hd⟩ ⟨3, reads_tix enc W _⟩
  obtain ⟨x0, rfl, rfl, rfl, wx0⟩ := open_int Tryd.underlying5 (hval 0 5 v0 rfl rfl) h0
  obtain ⟨x1, rfl, rfl, rfl, wx1⟩ := open_int Tryd.underlying5 (hval 1 5 v1 rfl rfl) h1
  clear hA0 hV0 hval0
  obtain ⟨ea, hG⟩ := glob_of_laid11 hL
  have hn0 : 0 ≤ x0 ∧ x0 < 256 := by
    simp [Lit.wf, IntKind.min, IntKind.max, IntKind.signed, IntKind.bits] at wx0
    omega
  have hn1 : 0 ≤ x1 ∧ x1 < 256 := by
    simp [Lit.wf, IntKind.min, IntKind.max, IntKind.signed, IntKind.bits] at wx1
    omega
  refine (fnKeyword_calls x0 x1 ea W hn0.1 hn0.2 hn1.1 hn1.2 hG (tabs_of_laid hL) (shaped12 hsh)).mono ?_
  rintro e W' ⟨rfl, bel⟩
  have e1 : ((OpenSpec.ofChange Rows.fnPartKeywordSpec).at F).fn H ([.lit (.int .u8 x0), .lit (.int .u8 x1)] ++ [tixH]) = { results := [.lit (.bool true)], args := [.lit (.int .u8 x0), .lit (.int .u8 x1)], vars := [tixH] } := rfl
  refine ⟨_, rfl, _, _, _, [], [], (MemPlace.row ⟨2, 0, none⟩ tixC.size ++ [] ++ []), hW', ?_, ?_, ?_, bel.frame _, fun h => by cases h⟩
  · rw [e1]; exact trodAll_mk1 (shut_bool Tryd.underlying4 _)
  · rw [e1]; exact trodAll_cons_mk (shut_int Tryd.underlying5 wx0) (trodAll_cons_mk (shut_int Tryd.underlying5 wx1) trodAll_mk0)
  · rw [e1]; exact ⟨2, 112, tixC, 3, [], [], tix_name, tix_type, tix_below hvar bel (shaped12 hsh), reads_tix enc _ _, rfl, rfl⟩

theorem over : Rows.fnPartKeywordRow.holds Tryd.pinned (OpenSpec.ofChange Rows.fnPartKeywordSpec) :=
  OpenClaim.holds_of_cond 15 Tryd.f15 rfl rfl rfl rfl rfl rfl rfl ⟨rfl, rfl, rfl, rfl, rfl⟩ rfl rfl rfl rfl rfl named15 Tryd.func15 closed15 inst15 wrap15
    (fun os started H enc _ F0 => by rw [OpenClaim.pre_eq_preRow]; exact lifted os started H enc F0)

theorem textual : Rows.fnPartKeywordRow.wfByText (OpenSpec.ofChange Rows.fnPartKeywordSpec) = true := by kernel_rfl
theorem goes : false = Rows.fnPartKeywordRow.goesBy Tryd.prog := by kernel_rfl
theorem main_is : Tryd.prog.mainIs = some (true, "b5128e20423392c1a776c064341af5e2b37ac648f673b3f601849a425a383b9c".toList) := by kernel_rfl
theorem looking : true = Tryd.prog.looks [] := by kernel_rfl
theorem found : Tryd.prog.funcNamed "loop.example/pub-g03120/laws.FnPartKeyword" = some 15 := by kernel_rfl

/-- ████ THE STATEMENT ████ -/
theorem proved : Rows.FnPartKeywordCardSaid :=
  Claim7.holds_tied_plain_at .later [] [.data, .data, .data, .data, .sentinel, .sentinel, .data, .data, .pinned, .pinned, .pinned] true (true, "b5128e20423392c1a776c064341af5e2b37ac648f673b3f601849a425a383b9c") true
    over (fun _ h => by cases h) textual (fun _ h => by cases h) fnPartKeyword_row_tie rfl ⟨rfl, rfl⟩ main_is rfl
    (fun f fn hf hfn => by
      obtain rfl : f = 15 := Option.some.inj (found.symm.trans hf) |>.symm
      obtain rfl : fn = Tryd.f15 := (Option.some.inj (Tryd.func15.symm.trans hfn)).symm
      exact ⟨looking, fun j t ht => by
        rw [Tryd.params15] at ht
        rcases j with _ | _ | j
        · obtain rfl : 5 = t := by simpa using ht
          exact (show Tryd.prog.wantsStandIn 5 = false by kernel_rfl)
        · obtain rfl : 5 = t := by simpa using ht
          exact (show Tryd.prog.wantsStandIn 5 = false by kernel_rfl)
        · simp at ht⟩)
    goes
#print axioms proved
end Go.Proofs.YtnehkpoggkfikaaDoor.fnPartKeyword
