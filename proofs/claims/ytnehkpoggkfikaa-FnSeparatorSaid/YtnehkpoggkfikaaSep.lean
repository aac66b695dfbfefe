/-
  Proved: FnSeparator returns true for every text: no place is told exactly where each low line stands between digits or behind its base, and a place that is told is that of a low line. Condition: none beyond the given statement's own.
-/
import Derived.Test.YtnehkpoggkfikaaRows
import Derived.Test.YtnehkpoggkfikaaSepSpec
import Derived.ProofKit
import Derived.OpenShut
import Derived.ShutString
namespace Go.Proofs.Ytnehkpoggkfikaa.fnSeparator
open Go.ChangeShapes Go.WideShapes Go.ChangeAt Go.RowKit
open Go.ChangeMaps (open_string shut_string)
set_option linter.unusedVariables false      -- a walk need not use every 'w<i>' (that an integer argument fits its kind)

theorem own : ownKnob Try.prog.godebug = none := by kernel_rfl


theorem head_pre (s : ByteArray) (hex : Bool) (h2 : 1 < s.size) (e0 : (byteAt s 0 == 48) = true) (x : Int) (hx : lowZ (byteAt s 1) = x) (hc : x = 120 ∨ x = 111 ∨ x = 98) : Head s hex 2 48 := by
  refine ⟨.inr ⟨rfl, rfl, by omega, ?_, ?_⟩⟩
  · have : byteAt s 0 = 48 := by simpa using e0
    omega
  · intro h
    rw [h] at hx
    have : lowZ 95 = 127 := by decide
    omega

/-- One reading of the text's beginning serves both: the scanner's own place, and the statement's reading. -/
theorem both (s : ByteArray) (hs : s.size ≤ maxLen) : ∃ hex st, (∀ w, Calls Try.prog 8 #[.string s] w fun e w' => (∃ k, e = .returned (.int .i64 k) ∧ Answer s hex st k) ∧ w = w') ∧ ∀ w, Calls Try.prog 5 #[.string s] w (ParPost s hex st w) := by
  have H0 : Head s false 0 46 := ⟨.inl ⟨rfl, rfl, rfl⟩⟩
  by_cases h2 : 1 < s.size
  · have h0 := byteAt_get s 0 (by omega)
    have h1 := byteAt_get s 1 h2
    obtain ⟨b0, b1⟩ := byteAt_lt s 1
    have hlow := low_same _ b0 b1
    cases e0 : (byteAt s 0 == 48) with
    | false => exact ⟨false, 0, fun w => sep_not0 s w hs h2 _ h0 e0 H0, fun w => parted_not0 s w hs h2 _ h0 e0⟩
    | true =>
      cases hc : (lowZ (byteAt s 1) == 120) with
      | true => exact ⟨true, 2, fun w => sep_hex s w hs h2 _ _ h0 h1 e0 b0 b1 _ rfl hc (head_pre s true h2 e0 _ rfl (.inl (by simpa using hc))), fun w => parted_hex s w hs h2 _ _ h0 h1 e0 b0 b1 _ hlow.symm hc⟩
      | false =>
        cases ho : (lowZ (byteAt s 1) == 111) with
        | true => exact ⟨false, 2, fun w => sep_oct s w hs h2 _ _ h0 h1 e0 b0 b1 _ rfl hc ho (head_pre s false h2 e0 _ rfl (.inr (.inl (by simpa using ho)))), fun w => parted_oct s w hs h2 _ _ h0 h1 e0 b0 b1 _ hlow.symm hc ho⟩
        | false =>
          cases hb : (lowZ (byteAt s 1) == 98) with
          | true => exact ⟨false, 2, fun w => sep_bin s w hs h2 _ _ h0 h1 e0 b0 b1 _ rfl hc ho hb (head_pre s false h2 e0 _ rfl (.inr (.inr (by simpa using hb)))), fun w => parted_bin s w hs h2 _ _ h0 h1 e0 b0 b1 _ hlow.symm hc ho hb⟩
          | false => exact ⟨false, 0, fun w => sep_none s w hs h2 _ _ h0 h1 e0 b0 b1 _ rfl hc ho hb H0, fun w => parted_none s w hs h2 _ _ h0 h1 e0 b0 b1 _ hlow.symm hc ho hb⟩
  · exact ⟨false, 0, fun w => sep_short s w hs (by omega) H0, fun w => parted_short s w hs (by omega)⟩

set_option maxHeartbeats 1000000 in
theorem walk (a0 : ByteArray) (w0 : a0.size ≤ maxLen) (w : World) :
    Calls Try.prog 3 #[.string a0] w fun e w' => e = .returned (.bool true) ∧ Grown w w' := by
  obtain ⟨hex, st, h8, h5⟩ := both a0 w0
  have H8 := Lib.hid h8; clear h8
  have H5 := Lib.hid h5; clear h5
  unfold maxLen at w0
  by_cases hm : (2147483647 : Int) < (a0.size : Int)
  · go_enter Try.func3, Try.ntmps3
    go_wp2
    go_ret
    exact ⟨rfl, Grown.refl _⟩
  by_cases hm2 : (150 : Int) < (a0.size : Int)
  · go_enter Try.func3, Try.ntmps3
    go_wp2
    go_ret
    exact ⟨rfl, Grown.refl _⟩
  go_enter Try.func3, Try.ntmps3
  go_wp2_with (first | (go_at_call 4; go_in) | (go_at_call 6; go_in))
  refine (H8.out _).mono ?_
  rintro e w' ⟨⟨k, rfl, hk⟩, rfl⟩
  have HK := Lib.hid hk; clear hk
  go_wp2_with fail
  refine (H5.out _).mono ?_
  rintro e w' ⟨⟨b, rfl, hb⟩, rfl⟩
  rcases HK.out with ⟨hp, rfl⟩ | ⟨hp, j, rfl, hj, hc⟩
  · obtain rfl : b = true := hb.2 hp
    clear hb HK
    go_wp2
    go_ret
    exact ⟨rfl, Grown.refl _⟩
  · obtain rfl : b = false := by cases b; rfl; exact absurd (hb.1 rfl) hp
    clear hb HK
    have hg := byteAt_get a0 j hj
    rw [hc] at hg
    have hj' : (j : Int) < (a0.size : Int) := by omega
    have hj0 : (0 : Int) ≤ (j : Int) := by omega
    go_wp2
    go_ret
    exact ⟨rfl, Grown.refl _⟩

/-! ### THE ROW's STEP: WRITTEN OUT: LEAVE IT -/
set_option maxRecDepth 100000 in
theorem lifted (os : Os) (started : os.Started) (H : Type) (enc : TypeId × Value → H) :
    ReturnsInHanded {} Try.checked os 3 .any (Rows.fnSeparatorSpec.pre6 enc Try.prog Try.f3 Rows.fnSeparatorRow.domain false) (Rows.fnSeparatorSpec.post enc Try.prog Try.f3 false true false false) := by
  refine returnsInHanded_of_change (C := Try.checked) own started (by kernel_rfl) Try.func3
    (ChangeSpec.witness6 (enc := enc) (C := Try.checked) false ⟨#[], #[.string ByteArray.empty], []⟩ 8 (by kernel_rfl) (by kernel_rfl) (by kernel_rfl) (by kernel_rfl)) ?_
  intro W base args ds gs before hval0 hW hcnd _
  have hval : ∀ (j : Nat) t v, Try.f3.params[j]? = some t → args[j]? = some v → Value.okWide Try.prog W .any base t v := hval0
  have hW' := hW
  obtain ⟨p, q, hA0, hV, rfl, hfz, hnd⟩ := hW
  have hA : DataW.TrodAll enc Try.prog W 0 (fun _ => true) true Try.f3.params.toList args.toList ds p := hA0
  rw [Try.params3] at hA hval
  obtain ⟨v0, vs0, d0, ds0, p0, q0, hargs, rfl, rfl, h0, r0⟩ := trodAll_cons hA
  obtain ⟨rfl, rfl, rfl⟩ := trodAll_nil r0
  obtain rfl : args = #[v0] := by cases args; simp_all
  obtain ⟨rfl, rfl⟩ := trodVars_none hV
  obtain ⟨a0, rfl, rfl, rfl, w0⟩ := open_string Try.underlying9 (hval 0 9 v0 rfl rfl) h0
  clear hA0 hval0
  simp only [List.append_nil] at hW'
  refine (walk a0 w0 W).mono fun e W' ⟨he, hg⟩ => ?_
  subst he
  exact ⟨_, rfl, post_of_same (pa := []) (pv := []) hW' (fun _ _ _ => (trodAll_cons_mk (shut_bool Try.underlying4 _) trodAll_mk0)) (fun sp _ => (trodAll_cons_mk (shut_string Try.underlying9 w0) trodAll_mk0)) (fun _ _ => rfl) rfl
    (hg.frame _) hg.2.1 (ok_one (by kernel_rfl) rfl (okWide_bool_mk Try.underlying4 _))⟩

theorem over : Rows.fnSeparatorRow.holds Try.pinned (OpenSpec.ofChange Rows.fnSeparatorSpec) :=
  OpenClaim.holds_of_wide 3 Try.f3 rfl rfl rfl rfl rfl rfl rfl ⟨rfl, rfl, rfl, rfl, rfl⟩ rfl rfl rfl rfl rfl (by kernel_rfl) Try.func3 (by kernel_rfl)
    (of_decide_eq_true (by kernel_rfl)) (by unfold Func.isWrapper; first | (rw [if_pos (by decide +kernel)]; kernel_rfl) | (rw [if_neg (by decide +kernel)]; exact ⟨rfl, rfl⟩))
    (fun os started H enc _ => lifted os started H enc)

/-- ████ THE STATEMENT ████ -/
theorem proved : Rows.FnSeparatorSaid :=
  over
#print axioms proved
end Go.Proofs.Ytnehkpoggkfikaa.fnSeparator
