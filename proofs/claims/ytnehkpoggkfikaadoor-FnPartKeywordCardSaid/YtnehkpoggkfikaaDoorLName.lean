/-
  The statement on names, walked. Conditions: each law's own.
-/
import Derived.Test.YtnehkpoggkfikaaDoorIdI
import Derived.Test.YtnehkpoggkfikaaDoorIdX
import Derived.Test.YtnehkpoggkfikaaDoorLRaw
namespace Go.Proofs.YtnehkpoggkfikaaDoor
open Go.RowKit
set_option linter.unusedVariables false

theorem bhd_of {b : List Nat} (h : b ∈ behinds) : Bhd b := by
  intro c t e
  simp only [behinds, List.mem_cons, List.not_mem_nil, or_false] at h
  rcases h with rfl | rfl | rfl | rfl | rfl | rfl | rfl | rfl | rfl
  all_goals first | (injection e with e1 _; subst e1; decide +kernel) | cases e
/-- The text that is handed to the reader of names. -/
theorem id_src {s : ByteArray} {x : Nat} {a b : List Nat} (hs : s.data.toList = encs (x :: a)) (ho : okAll (x :: a)) (h1 : s.size ≤ 200) (hb : b ∈ behinds) :
    okAll (x :: (a ++ b)) ∧ ((s ++ ⟨(encs b).toArray⟩ : ByteArray).data.toList = encs (x :: (a ++ b))) ∧ ((s ++ ⟨(encs b).toArray⟩ : ByteArray).size : Int) ≤ 1900 ∧ (⟨(enc x ++ encs a).toArray⟩ : ByteArray) = s := by
  obtain ⟨okb, hb2⟩ := behinds_ok hb
  refine ⟨?_, ?_, ?_, ?_⟩
  · rw [← List.cons_append]; exact okAll_append.2 ⟨ho, okb⟩
  · rw [← List.cons_append, encs_append, ← hs]
    simp only [ByteArray.data_append, Array.toList_append]
  · simp only [ByteArray.size_append]
    have h2 : (⟨(encs b).toArray⟩ : ByteArray).size = (encs b).length := by show (encs b).toArray.size = _; simp
    rw [h2]; omega
  · have e : enc x ++ encs a = s.data.toList := hs.symm
    rw [e]
theorem kw_two : kwS 2 = ⟨#[110, 97, 109, 101]⟩ := rfl

set_option maxRecDepth 100000 in
set_option maxHeartbeats 2000000 in
theorem fnName_calls (s : ByteArray) (n : Int) (ea : Addr) (w : World) (h0 : 0 ≤ n) (h1 : n < 256) (hG : Glob w ea) (hT : Tabs w) (hw : 12 ≤ w.heap.size) :
    Calls Tryd.prog 16 #[.string s, .int .u8 n] w fun e w' => e = .returned (.bool true) ∧ Below w.heap.size w w' := by
  have HG := Lib.hid hG
  have HT := Lib.hid hT
  clear hG hT
  by_cases hs : (s.size : Int) ≤ 2147483647
  case neg =>
    have hs' : decide (2147483647 < (s.size : Int)) = true := by simp; omega
    go_enter Tryd.func16, Tryd.ntmps16
    go_wp2_with fail
    go_ret
    exact ⟨rfl, Below.refl _ _⟩
  have hs' : decide (2147483647 < (s.size : Int)) = false := by simp; omega
  by_cases h150 : (s.size : Int) ≤ 150
  case neg =>
    have h1' : decide (150 < (s.size : Int)) = true := by simp; omega
    go_enter Tryd.func16, Tryd.ntmps16
    go_wp2_with fail
    go_ret
    exact ⟨rfl, Below.refl _ _⟩
  have h1' : decide (150 < (s.size : Int)) = false := by simp; omega
  go_enter Tryd.func16, Tryd.ntmps16
  go_wp2_with fail
  go_at_call 34
  refine (isName_calls s _ HT.out hw (by omega)).mono ?_
  rintro e w1 ⟨⟨b1, rfl, hb1⟩, hB1⟩
  cases b1
  · go_wp2_with fail
    go_ret
    exact ⟨rfl, hB1⟩
  obtain ⟨x, a, hx, hok, hx1, ha, hnk⟩ := hb1 rfl
  have HX := Lib.hid hx
  have HOK := Lib.hid hok
  have HA := Lib.hid ha
  have HNK := Lib.hid hnk
  have HB1 := Lib.hid hB1
  clear hb1 hB1 hx hok hx1 ha hnk
  go_wp2_with fail
  go_at_call 19
  refine (behind_calls n _ h0 h1).mono ?_
  rintro e w2 ⟨⟨b, hb, rfl⟩, hB2⟩
  have HB2 : Hid (Below w.heap.size w w2) := HB1.out.trans (hB2.mono HB1.out.size)
  rw [chOf_firstOf b]
  obtain ⟨s1, s2, s3, s4⟩ := id_src HX.out HOK.out (by omega) hb
  have S1 := Lib.hid s1
  have S2 := Lib.hid s2
  have S3 := Lib.hid s3
  have S4 := Lib.hid s4
  have HM := Lib.hid (bhd_of hb)
  have hlen : ¬ 9223372036854775807 < s.size + (encs b).length := by
    have h2 : (⟨(encs b).toArray⟩ : ByteArray).size = (encs b).length := by show (encs b).toArray.size = _; simp
    simp only [ByteArray.size_append] at s3
    omega
  clear hB2 hb s1 s2 s3 s4
  go_wp2_with fail
  go_at_call 33
  refine (implIdent_calls _ x a b ea _ (glob_below HG.out HB2.out) (HT.out.below hw HB2.out) S1.out S2.out S3.out (Nat.le_trans hw HB2.out.size) HA.out HM.out).mono ?_
  rintro e w4 ⟨word, l17, ta, tc, hR, rfl, hB4⟩
  have hword : word = ⟨#[110, 97, 109, 101]⟩ ∧ l17 = s := by
    rcases hR with ⟨t, t1, t2, e, -⟩ | ⟨-, e1, e2⟩
    · rw [S4.out] at e; exact absurd e (HNK.out t t1 t2)
    · rw [S4.out] at e2; exact ⟨by rw [e1]; rfl, e2⟩
  obtain ⟨rfl, rfl⟩ := hword
  have HB4 : Hid (Below w.heap.size w w4) := HB2.out.trans (hB4.mono HB2.out.size)
  clear hR hB4
  go_wp2_with fail
  go_ret
  exact ⟨rfl, HB4.out.alloc HB4.out.size _⟩
end Go.Proofs.YtnehkpoggkfikaaDoor
