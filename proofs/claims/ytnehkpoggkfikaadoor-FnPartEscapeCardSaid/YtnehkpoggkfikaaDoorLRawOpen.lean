/-
  The open raw string's statement, walked. Conditions: the law's own.
-/
import Derived.Test.YtnehkpoggkfikaaDoorLRaw
namespace Go.Proofs.YtnehkpoggkfikaaDoor
open Go.RowKit
set_option linter.unusedVariables false

theorem raw_open {s : ByteArray} (hT : IsText s) (hN : NoneOf s ⟨#[96]⟩) : ∃ rs, okAll (96 :: rs) ∧ ((⟨#[96]⟩ ++ s : ByteArray).data.toList = encs (96 :: rs)) ∧ ((⟨#[96]⟩ ++ s : ByteArray).size : Int) ≤ 1900 ∧
    ∀ p rest kind bad ns, RawIs rs p rest kind bad ns → ns.length = 1 := by
  obtain ⟨rs, hs, hok, h60⟩ := hT
  have h96 : 96 ∉ rs := none_of hs 96 (by omega) 96 enc96 fun i hi => hN i hi 0 (by decide)
  refine ⟨rs, okAll_cons.2 ⟨by unfold okR; omega, hok⟩, ?_, ?_, ?_⟩
  · simp only [ByteArray.data_append, Array.toList_append, hs, encs, enc96]
  · simp only [ByteArray.size_append]
    have : (⟨#[96]⟩ : ByteArray).size = 1 := rfl
    omega
  · rintro p rest kind bad ns ⟨hk, ⟨pre, h1, -⟩ | ⟨-, -, -, -, h⟩⟩
    · rw [h1] at h96; simp at h96
    · exact h

theorem field_told (a b c d e : Value) (w : World) : Sem.run Tryd.prog (Instr.field 29 (.agg #[a, b, c, d, e]) 4) w = .ok e w := by
  simp [go_sem, Instr.field]
  rfl

set_option maxRecDepth 100000 in
set_option maxHeartbeats 1000000 in
theorem fnRawOpen_calls (s : ByteArray) (ea : Addr) (w : World) (hG : Glob w ea) (hw : 12 ≤ w.heap.size) :
    Calls Tryd.prog 4 #[.string s] w fun e w' => e = .returned (.bool true) ∧ Below w.heap.size w w' := by
  have HG := Lib.hid hG
  clear hG
  by_cases hs : (s.size : Int) ≤ 2147483647
  case neg =>
    have hs' : decide (2147483647 < (s.size : Int)) = true := by simp; omega
    go_enter Tryd.func4, Tryd.ntmps4
    go_wp2_with fail
    go_ret
    exact ⟨rfl, Below.refl _ _⟩
  have hs' : decide (2147483647 < (s.size : Int)) = false := by simp; omega
  go_enter Tryd.func4, Tryd.ntmps4
  go_wp2_with fail
  go_at_call 17
  refine (textok_calls s _ (by omega)).mono ?_
  rintro e w1 ⟨⟨b1, rfl, hb1⟩, hB1⟩
  cases b1
  · go_wp2_with fail
    go_ret
    exact ⟨rfl, hB1⟩
  have hT := Lib.hid (hb1 rfl)
  have HB1 := Lib.hid hB1
  clear hb1 hB1
  go_wp2_with fail
  go_at_call 18
  refine (without_calls s ⟨#[96]⟩ _ (by omega) (by decide)).mono ?_
  rintro e w2 ⟨⟨b2, rfl, hb2⟩, hB2⟩
  cases b2
  · go_wp2_with fail
    go_ret
    exact ⟨rfl, HB1.out.trans (hB2.mono HB1.out.size)⟩
  obtain ⟨rs, hok, hd, hmax, hR⟩ := raw_open hT.out (hb2 rfl)
  have HB2 : Hid (Below w.heap.size w w2) := HB1.out.trans (hB2.mono HB1.out.size)
  have hlen : ¬ 9223372036854775807 < 1 + s.size := by omega
  clear hb2 hB2
  go_wp2_with fail
  go_at_call 21
  refine (raw_calls _ rs ea _ (glob_below HG.out HB2.out) hok hd hmax (Nat.le_trans hw HB2.out.size)).mono ?_
  rintro e w4 ⟨p, rest, kind, bad, ns, hIs, v, l', rfl, htx, hrow, hB4⟩
  have h1 := hR _ _ _ _ _ hIs
  have hl' : l'.length = 1 := by have := congrArg List.length htx; simpa [h1] using this
  obtain ⟨ta, tc, rfl⟩ := ownsRow_slice hrow
  rw [hl']
  have hfld := field_told
  have HB4 : Hid (Below w.heap.size w w4) := HB2.out.trans (hB4.mono HB2.out.size)
  clear hR hIs hrow htx hB4 hd hmax hok
  go_wp2_with fail
  go_ret
  exact ⟨rfl, HB4.out⟩
end Go.Proofs.YtnehkpoggkfikaaDoor
