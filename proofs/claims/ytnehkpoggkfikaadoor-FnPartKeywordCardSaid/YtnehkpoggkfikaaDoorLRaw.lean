/-
  The raw strings' statements, walked. Conditions: each law's own.
-/
import Derived.Test.YtnehkpoggkfikaaDoorIRaw
import Derived.Test.YtnehkpoggkfikaaDoorSpec1
import Derived.Test.YtnehkpoggkfikaaDoorSpec2
namespace Go.Proofs.YtnehkpoggkfikaaDoor
open Go.RowKit
set_option linter.unusedVariables false

theorem glob_below {w w' : World} {ea : Addr} (h : Glob w ea) (hb : Below w.heap.size w w') : Glob w' ea := by
  have C : ∀ k o v, w.cell? ⟨k, o, none⟩ = some v → w'.cell? ⟨k, o, none⟩ = some v := fun k o v hv => by rw [← hv]; exact World.cell?_of_block (w := w) (hb.block k (cell_lt hv))
  exact ⟨C _ _ _ h.eof, fun i hi => C _ _ _ (h.tabs.1 i hi), fun i hi => ⟨C _ _ _ (h.tabs.2 i hi).1, C _ _ _ (h.tabs.2 i hi).2⟩⟩

theorem chOf_firstOf (b : List Nat) : firstOf b = chOf b := by cases b <;> rfl
theorem behinds_ok {b : List Nat} (h : b ∈ behinds) : okAll b ∧ (encs b).length ≤ 2 := by
  simp only [behinds, List.mem_cons, List.not_mem_nil, or_false] at h
  rcases h with rfl | rfl | rfl | rfl | rfl | rfl | rfl | rfl | rfl <;> exact ⟨by intro r hr; revert r; decide, by decide +kernel⟩
/-- A byte that is no part of a text: its character is none. -/
theorem none_of {s : ByteArray} {rs : List Nat} (hs : s.data.toList = encs rs) (x : Nat) (hx : x < 128) (c : UInt8) (hc : enc x = [c]) (h : ∀ i (hi : i < s.size), s[i] ≠ c) : x ∉ rs := by
  intro hm
  obtain ⟨a, b, rfl⟩ := List.append_of_mem hm
  have hm2 : c ∈ encs (a ++ x :: b) := by rw [encs_append]; simp [encs, hc]
  rw [← hs] at hm2
  obtain ⟨i, hi, he⟩ := List.getElem_of_mem hm2
  have hi' : i < s.size := by simpa using hi
  refine h i hi' ?_
  rw [← he]
  simp [ByteArray.getElem_eq_getElem_data]
theorem split_at {rs b pre rest : List Nat} (h : rs ++ 96 :: b = pre ++ 96 :: rest) (h1 : 96 ∉ rs) (h2 : 96 ∉ pre) : pre = rs ∧ rest = b := by
  induction rs generalizing pre with
  | nil =>
    cases pre with
    | nil => simp at h; exact ⟨rfl, h.symm⟩
    | cons y pre => simp at h; simp [h.1] at h2
  | cons x rs ih =>
    cases pre with
    | nil => simp at h; simp [h.1] at h1
    | cons y pre =>
      simp at h h1 h2
      obtain ⟨h3, h4⟩ := h
      obtain ⟨e1, e2⟩ := ih h4 h1.2 h2.2
      exact ⟨by rw [e1, h3], e2⟩
theorem enc96 : enc 96 = [96] := by decide +kernel
def RawText (s : ByteArray) (b : List Nat) (rs : List Nat) : Prop :=
  okAll (96 :: (rs ++ 96 :: b)) ∧ (((⟨#[96]⟩ ++ s ++ ⟨#[96]⟩) ++ ⟨(encs b).toArray⟩ : ByteArray).data.toList = encs (96 :: (rs ++ 96 :: b))) ∧ (((⟨#[96]⟩ ++ s ++ ⟨#[96]⟩) ++ ⟨(encs b).toArray⟩ : ByteArray).size : Int) ≤ 1900 ∧
  ∀ p rest kind bad ns, RawIs (rs ++ 96 :: b) p rest kind bad ns → (⟨p.toArray⟩ : ByteArray) = ⟨#[96]⟩ ++ s ++ ⟨#[96]⟩ ∧ rest = b ∧ kind = 4 ∧ bad = false ∧ ns = []
theorem raw_text {s : ByteArray} {b : List Nat} (hT : IsText s) (hN : NoneOf s ⟨#[96]⟩) (hb : b ∈ behinds) : ∃ rs, RawText s b rs := by
  obtain ⟨rs, hs, hok, h60⟩ := hT
  obtain ⟨okb, hb2⟩ := behinds_ok hb
  have h96 : 96 ∉ rs := none_of hs 96 (by omega) 96 enc96 fun i hi => hN i hi 0 (by decide)
  have hd : (((⟨#[96]⟩ ++ s ++ ⟨#[96]⟩) ++ ⟨(encs b).toArray⟩ : ByteArray).data.toList = encs (96 :: (rs ++ 96 :: b))) := by
    simp only [ByteArray.data_append, Array.toList_append, hs, encs, encs_append, enc96]
    simp
  refine ⟨rs, okAll_cons.2 ⟨by unfold okR; omega, okAll_append.2 ⟨hok, okAll_cons.2 ⟨by unfold okR; omega, okb⟩⟩⟩, hd, ?_, ?_⟩
  · simp only [ByteArray.size_append]
    have : (⟨#[96]⟩ : ByteArray).size = 1 := rfl
    have h3 : (⟨(encs b).toArray⟩ : ByteArray).size = (encs b).length := by show (encs b).toArray.size = _; simp
    omega
  · rintro p rest kind bad ns ⟨hk, ⟨pre, h1, h2, hp, hbad, hns⟩ | ⟨h1, -⟩⟩
    · obtain ⟨rfl, rfl⟩ := split_at h1 h96 h2
      refine ⟨?_, rfl, hk, hbad, hns⟩
      apply ByteArray.ext
      apply Array.toList_inj.1
      simp only [ByteArray.data_append, Array.toList_append, hs, hp, enc96]
    · simp at h1

set_option maxRecDepth 100000 in
set_option maxHeartbeats 1000000 in
theorem fnRaw_calls (s : ByteArray) (n : Int) (ea : Addr) (w : World) (h0 : 0 ≤ n) (h1 : n < 256) (hG : Glob w ea) (hw : 12 ≤ w.heap.size) :
    Calls Tryd.prog 3 #[.string s, .int .u8 n] w fun e w' => e = .returned (.bool true) ∧ Below w.heap.size w w' := by
  have HG := Lib.hid hG
  clear hG
  by_cases hs : (s.size : Int) ≤ 2147483647
  case neg =>
    have hs' : decide (2147483647 < (s.size : Int)) = true := by simp; omega
    go_enter Tryd.func3, Tryd.ntmps3
    go_wp2_with fail
    go_ret
    exact ⟨rfl, Below.refl _ _⟩
  have hs' : decide (2147483647 < (s.size : Int)) = false := by simp; omega
  go_enter Tryd.func3, Tryd.ntmps3
  go_wp2_with fail
  go_at_call 17
  refine (textok_calls s _ (by omega)).mono ?_
  rintro e w1 ⟨⟨b1, rfl, hb1⟩, hB1⟩
  cases b1
  · go_wp2_with fail
    go_ret
    exact ⟨rfl, hB1⟩
  have hT := Lib.hid (hb1 rfl)
  have HB1 := Lib.hid hB1
  clear hb1 hB1
  go_wp2_with fail
  go_at_call 18
  refine (without_calls s ⟨#[96]⟩ _ (by omega) (by decide)).mono ?_
  rintro e w2 ⟨⟨b2, rfl, hb2⟩, hB2⟩
  cases b2
  · go_wp2_with fail
    go_ret
    exact ⟨rfl, HB1.out.trans (hB2.mono HB1.out.size)⟩
  have hN := Lib.hid (hb2 rfl)
  have HB2 : Hid (Below w.heap.size w w2) := HB1.out.trans (hB2.mono HB1.out.size)
  clear hb2 hB2
  go_wp2_with fail
  go_at_call 19
  refine (behind_calls n _ h0 h1).mono ?_
  rintro e w3 ⟨⟨b, hb, rfl⟩, hB3⟩
  obtain ⟨rs, hok, hd, hmax, hR⟩ := raw_text hT.out hN.out hb
  have HB3 : Hid (Below w.heap.size w w3) := HB2.out.trans (hB3.mono HB2.out.size)
  have hfirst := chOf_firstOf b
  have hlen : ¬ 9223372036854775807 < 1 + s.size + 1 + (encs b).length := by have := (behinds_ok hb).2; omega
  clear hb hB3
  go_wp2_with fail
  go_at_call 21
  refine (raw_calls _ (rs ++ 96 :: b) ea _ (glob_below HG.out HB3.out) hok hd hmax (Nat.le_trans hw HB3.out.size)).mono ?_
  rintro e w4 ⟨p, rest, kind, bad, ns, hIs, v, l', rfl, htx, hrow, hB4⟩
  obtain ⟨hlit, rfl, rfl, rfl, rfl⟩ := hR _ _ _ _ _ hIs
  rw [hlit]
  have hl' : l' = [] := by simpa using htx
  subst hl'
  obtain ⟨ta, tc, rfl⟩ := ownsRow_slice hrow
  have HB4 : Hid (Below w.heap.size w w4) := HB3.out.trans (hB4.mono HB3.out.size)
  rw [← hfirst]
  clear hR hIs hrow htx hB4 hd hmax hok
  go_wp2_with fail
  go_at_call 20
  refine (is_true _ 4 _ ta tc _).mono ?_
  rintro e w5 ⟨rfl, hB5⟩
  go_wp2_with fail
  go_ret
  exact ⟨rfl, HB4.out.trans (hB5.mono HB4.out.size)⟩
end Go.Proofs.YtnehkpoggkfikaaDoor
