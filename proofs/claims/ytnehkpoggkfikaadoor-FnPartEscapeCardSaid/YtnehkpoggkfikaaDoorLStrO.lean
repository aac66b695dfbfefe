/-
  The statement on strings that do not end, walked. Conditions: the law's own.
-/
import Derived.Test.YtnehkpoggkfikaaDoorLStr
import Derived.Test.YtnehkpoggkfikaaDoorLRawOpen
namespace Go.Proofs.YtnehkpoggkfikaaDoor
open Go.RowKit
set_option linter.unusedVariables false

theorem many_notes {w : World} {B k : Nat} {v : Value} {ns l' : List Note} (hn : ns.length = k) (htx : l'.map (·.2.2) = ns.map (·.2.2)) (h : w.ownsRow B 36 3 v l'.length (cellsI l')) : ∃ a c, v = .slice a k c := by
  have e : l'.length = k := by have := congrArg List.length htx; simpa [hn] using this
  rw [e] at h
  exact ownsRow_slice h
/-- A text without its last byte. -/
theorem cut_last (q : Nat) (l : List Nat) (c : UInt8) (hc : enc q = [c]) (Q : ByteArray) (hQ : Q = ⟨(encs (l ++ [q])).toArray⟩) : 1 ≤ Q.size ∧ ∀ k, k = Q.size - 1 → (Q.extract 0 k).data.toList = encs l := by
  have h1 : Q.data.toList = encs l ++ [c] := by rw [hQ, encs_append]; simp [encs, hc]
  have hz : Q.size = (encs l).length + 1 := by
    have : Q.data.toList.length = Q.size := rfl
    rw [h1] at this; simp at this; omega
  refine ⟨by omega, ?_⟩
  rintro k rfl
  rw [ByteArray.data_extract, Array.toList_extract, h1, hz]
  simp

theorem rs_le {s : ByteArray} {rs : List Nat} (hs : s.data.toList = encs rs) (h60 : s.size ≤ 60) : rs.length ≤ 60 := by
  have h1 := chars_le (rs := rs)
  rw [← hs] at h1
  have : s.data.toList.length = s.size := rfl
  omega
/-- What a string that does not end gives. -/
def StrOpenText (Q2 : ByteArray) (U : List Nat) : Prop :=
  (okAll (34 :: U) ∧ (Q2.data.toList = encs (34 :: U)) ∧ (Q2.size : Int) ≤ 1900 ∧ (∀ lit kind bad ch ns, StrIs U lit kind bad ch ns → ns.length = 1)) ∧
  (okAll (34 :: (U ++ [10, 34])) ∧ ((Q2 ++ ⟨#[10, 34]⟩ : ByteArray).data.toList = encs (34 :: (U ++ [10, 34]))) ∧ ((Q2 ++ ⟨#[10, 34]⟩ : ByteArray).size : Int) ≤ 1900 ∧ (∀ lit kind bad ch ns, StrIs (U ++ [10, 34]) lit kind bad ch ns → ns.length = 1)) ∧
  (Q2.size : Int) ≤ 700
theorem str_open_text {rs : List Nat} (hok : okAll rs) (hrs : rs.length ≤ 60) {Q2 : ByteArray} (hQ : Q2.data.toList = encs (34 :: unitsQ 34 false rs)) : StrOpenText Q2 (unitsQ 34 false rs) := by
  have hU := unitsQ_ok 34 false rs hok
  have o34 : okR 34 := by unfold okR; omega
  have o10 : okR 10 := by unfold okR; omega
  have e34 : enc 34 = [34] := by decide +kernel
  have e10 : enc 10 = [10] := by decide +kernel
  have hlen := units_bytes 34 false rs (by omega)
  have hz : Q2.size = 1 + (encs (unitsQ 34 false rs)).length := by
    have : Q2.data.toList.length = Q2.size := rfl
    rw [hQ] at this
    simp only [encs, e34, List.length_append, List.length_cons, List.length_nil] at this
    omega
  refine ⟨⟨okAll_cons.2 ⟨o34, hU⟩, hQ, by omega, ?_⟩, ⟨okAll_cons.2 ⟨o34, okAll_append.2 ⟨hU, okAll_cons.2 ⟨o10, okAll_cons.2 ⟨o34, okAll_nil⟩⟩⟩⟩, ?_, ?_, ?_⟩, by omega⟩
  · rintro lit kind bad ch ns ⟨m, e, ok, h1, h2, h3, h4, h5, h6⟩
    rw [show unitsQ 34 false rs = unitsQ 34 false rs ++ [] from (List.append_nil _).symm] at h1
    obtain ⟨m', hm, h7⟩ := strRun_units hok h1
    rw [h6, strRun_eof h7]
  · simp only [ByteArray.data_append, Array.toList_append, hQ, encs, encs_append, e34, e10]
    simp
  · simp only [ByteArray.size_append]
    have : (⟨#[10, 34]⟩ : ByteArray).size = 2 := rfl
    omega
  · rintro lit kind bad ch ns ⟨m, e, ok, h1, h2, h3, h4, h5, h6⟩
    obtain ⟨m', hm, h7⟩ := strRun_units hok h1
    rw [h6, strRun_nl h7]

set_option maxRecDepth 100000 in
set_option maxHeartbeats 1000000 in
theorem fnStringOpen_calls (s : ByteArray) (ea : Addr) (w : World) (hG : Glob w ea) (hw : 12 ≤ w.heap.size) :
    Calls Tryd.prog 9 #[.string s] w fun e w' => e = .returned (.bool true) ∧ Below w.heap.size w w' := by
  have HG := Lib.hid hG
  clear hG
  by_cases hs : (s.size : Int) ≤ 2147483647
  case neg =>
    have hs' : decide (2147483647 < (s.size : Int)) = true := by simp; omega
    go_enter Tryd.func9, Tryd.ntmps9
    go_wp2_with fail
    go_ret
    exact ⟨rfl, Below.refl _ _⟩
  have hs' : decide (2147483647 < (s.size : Int)) = false := by simp; omega
  go_enter Tryd.func9, Tryd.ntmps9
  go_wp2_with fail
  go_at_call 17
  refine (textok_calls s _ (by omega)).mono ?_
  rintro e w1 ⟨⟨b1, rfl, hb1⟩, hB1⟩
  cases b1
  · go_wp2_with fail
    go_ret
    exact ⟨rfl, hB1⟩
  obtain ⟨rs, hrs, hok, h60⟩ := hb1 rfl
  have HRS := Lib.hid hrs
  have HOK0 := Lib.hid hok
  have HB1 := Lib.hid hB1
  clear hb1 hB1 hrs hok
  go_wp2_with fail
  go_at_call 27
  refine (quoted_calls s 34 false rs _ (.inl rfl) HRS.out HOK0.out h60).mono ?_
  rintro e w2 ⟨rfl, hB2⟩
  have HB2 : Hid (Below w.heap.size w w2) := HB1.out.trans (hB2.mono HB1.out.size)
  obtain ⟨Q, hQ⟩ : ∃ Q : ByteArray, Q = ⟨(encs (34 :: (unitsQ 34 false rs ++ [34]))).toArray⟩ := ⟨_, rfl⟩
  rw [← hQ]
  have HC := Lib.hid (cut_last 34 (34 :: unitsQ 34 false rs) 34 (by decide +kernel) Q hQ)
  have hq1 : (1 : Int) ≤ (Q.size : Int) := by have := HC.out.1; omega
  obtain ⟨Q2, hQ2⟩ : ∃ Q2, Q2 = Q.extract 0 (Q.size - 1) := ⟨_, rfl⟩
  have HT := Lib.hid (str_open_text (Q2 := Q2) HOK0.out (rs_le HRS.out h60) (by rw [hQ2]; exact HC.out.2 _ rfl))
  have hlen : ¬ 9223372036854775807 < Q2.size + 2 := by have := HT.out.2.2; omega
  have hq2 : (Q.size : Int) ≤ 701 := by
    have h1 := HT.out.2.2
    rw [hQ2, ByteArray.size_extract] at h1
    omega
  have HQ2 := Lib.hid hQ2
  clear hB2 hQ hQ2
  go_wp2_with fail
  go_at_call 25
  rw [← HQ2.out]
  refine (implString_calls _ 34 (unitsQ 34 false rs) ea (reads_string _) _ (glob_below HG.out HB2.out) HT.out.1.1 HT.out.1.2.1 HT.out.1.2.2.1 (Nat.le_trans hw HB2.out.size)).mono ?_
  rintro e w4 ⟨lit, kind, bad, ch, ns, hIs, v, l', rfl, htx, hrow, hB4⟩
  obtain ⟨ta, tc, rfl⟩ := many_notes (HT.out.1.2.2.2 _ _ _ _ _ hIs) htx hrow
  have HB4 : Hid (Below w.heap.size w w4) := HB2.out.trans (hB4.mono HB2.out.size)
  have hfld := field_told
  clear hIs htx hrow hB4
  go_wp2_with fail
  go_at_call 25
  refine (implString_calls _ 34 (unitsQ 34 false rs ++ [10, 34]) ea (reads_string _) _ (glob_below HG.out HB4.out) HT.out.2.1.1 HT.out.2.1.2.1 HT.out.2.1.2.2.1 (Nat.le_trans hw HB4.out.size)).mono ?_
  rintro e w5 ⟨lit2, kind2, bad2, ch2, ns2, hIs, v2, l2, rfl, htx, hrow, hB5⟩
  obtain ⟨ta2, tc2, rfl⟩ := many_notes (HT.out.2.1.2.2.2 _ _ _ _ _ hIs) htx hrow
  have HB5 : Hid (Below w.heap.size w w5) := HB4.out.trans (hB5.mono HB4.out.size)
  clear hIs htx hrow hB5
  go_wp2_with fail
  go_ret
  exact ⟨rfl, HB5.out⟩
end Go.Proofs.YtnehkpoggkfikaaDoor
