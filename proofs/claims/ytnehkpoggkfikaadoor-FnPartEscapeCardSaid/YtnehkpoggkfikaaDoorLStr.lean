/-
  The statements on strings, walked: every text between quotes. Conditions: each law's own.
-/
import Derived.Test.YtnehkpoggkfikaaDoorDString
import Derived.Test.YtnehkpoggkfikaaDoorStrW
import Derived.Test.YtnehkpoggkfikaaDoorQuoP
import Derived.Test.YtnehkpoggkfikaaDoorQuoF
import Derived.Test.YtnehkpoggkfikaaDoorLLine
namespace Go.Proofs.YtnehkpoggkfikaaDoor
open Go.RowKit
set_option linter.unusedVariables false

theorem quoted_calls (s : ByteArray) (q : Nat) (full : Bool) (all : List Nat) (w : World) (hq : q = 34 ∨ q = 39) (hs : s.data.toList = encs all) (ho : okAll all) (h60 : s.size ≤ 60) :
    Calls Tryd.prog 27 #[.string s, .int .u8 (q : Int), .bool full] w fun e w' => e = .returned (.string ⟨(encs (q :: (unitsQ q full all ++ [q]))).toArray⟩) ∧ Below w.heap.size w w' := by
  cases full
  · exact quoted_plain s q all w hq hs ho h60
  · exact quoted_full s q all w hq hs ho h60

/-- A string: what the scanner reads. -/
def StrIs (l : List Nat) : TokR := fun lit kind bad ch ns => ∃ m e ok, StrRun l m e ok ∧ lit = ⟨(enc 34 ++ encs (l.take m)).toArray⟩ ∧ kind = 4 ∧ bad = !ok ∧ ch = chOf (l.drop m) ∧ ns.length = e
theorem OpenTo.sa {w : World} {E : Env} {p : List UInt8} {l : List Nat} {m : Int} (h : OpenTo w E p l m) : SA w E p l 0 := ⟨[], rfl, h.at_⟩
theorem drop_bounds {l : List Nat} (h : okAll l) (k : Nat) : -2147483648 ≤ chOf (l.drop k) ∧ chOf (l.drop k) ≤ 2147483647 := chOf_bounds fun x hx => h x (List.mem_of_mem_drop hx)
theorem reads_string (l : List Nat) : ReadsString (StrIs l) 34 l 0 := by
  intro E w h
  have ho : okAll l := h.okAll
  refine (stdString_calls E l 0 1 1 w h.sa h.tail).mono ?_
  rintro e w' ⟨rfl, hK, p, l', n, ok, ⟨m, h1, h2, rfl, rfl⟩, ns, h5, hL⟩
  exact TokEnd.mk hK ⟨m, n, ok, h1, rfl, rfl, rfl, rfl, h5⟩ (by omega) (drop_bounds ho m) hL.end

theorem units_bytes (q : Nat) (full : Bool) (rs : List Nat) (hq : q < 128) : (encs (unitsQ q full rs)).length ≤ 10 * rs.length := by
  induction rs with
  | nil => simp [unitsQ, encs]
  | cons r rs ih =>
    have h1 : (encs (unitQ q full r)).length ≤ 10 := by
      unfold unitQ
      split
      · rw [hexB_unit]; simp [hexB_len]
      split
      · decide +kernel
      split
      · decide +kernel
      split
      · decide +kernel
      split
      · rename_i h
        have : r < 128 := by omega
        simp [encs, enc_ascii r this, enc_ascii 92]
      · have := enc_len_le r
        simp [encs]; omega
    simp only [unitsQ, List.flatMap_cons, encs_append, List.length_append, List.length_cons] at *
    omega
theorem chars_le {rs : List Nat} : rs.length ≤ (encs rs).length := by
  induction rs with
  | nil => simp
  | cons x l ih => have := enc_len_pos x; simp [encs]; omega

/-- What a quoted text gives. -/
def StrText (Q : ByteArray) (b U : List Nat) : Prop :=
  okAll (34 :: (U ++ 34 :: b)) ∧ ((Q ++ ⟨(encs b).toArray⟩ : ByteArray).data.toList = encs (34 :: (U ++ 34 :: b))) ∧ ((Q ++ ⟨(encs b).toArray⟩ : ByteArray).size : Int) ≤ 1900 ∧
  (∀ lit kind bad ch ns, StrIs (U ++ 34 :: b) lit kind bad ch ns → lit = Q ∧ kind = 4 ∧ bad = false ∧ ch = chOf b ∧ ns = [])
theorem str_text {s : ByteArray} {rs b : List Nat} {full : Bool} (hs : s.data.toList = encs rs) (hok : okAll rs) (h60 : s.size ≤ 60) (hb : b ∈ behinds) : StrText ⟨(encs (34 :: (unitsQ 34 full rs ++ [34]))).toArray⟩ b (unitsQ 34 full rs) := by
  obtain ⟨okb, hb2⟩ := behinds_ok hb
  have hU := unitsQ_ok 34 full rs hok
  have o34 : okR 34 := by unfold okR; omega
  have hlen := units_bytes 34 full rs (by omega)
  have hrs : rs.length ≤ 60 := by
    have h1 := chars_le (rs := rs)
    rw [← hs] at h1
    have : s.data.toList.length = s.size := rfl
    omega
  have e34 : enc 34 = [34] := by decide +kernel
  refine ⟨okAll_cons.2 ⟨o34, okAll_append.2 ⟨hU, okAll_cons.2 ⟨o34, okb⟩⟩⟩, ?_, ?_, ?_⟩
  · simp only [ByteArray.data_append, Array.toList_append, encs, encs_append]
    simp
  · simp only [ByteArray.size_append]
    have h1 : (⟨(encs (34 :: (unitsQ 34 full rs ++ [34]))).toArray⟩ : ByteArray).size = (encs (34 :: (unitsQ 34 full rs ++ [34]))).length := by show (encs _).toArray.size = _; simp
    have h2 : (⟨(encs b).toArray⟩ : ByteArray).size = (encs b).length := by show (encs b).toArray.size = _; simp
    rw [h1, h2]
    simp only [encs, encs_append, e34, List.length_append, List.length_cons, List.length_nil]
    omega
  · rintro lit kind bad ch ns ⟨m, e, ok, h1, h2, h3, h4, h5, h6⟩
    obtain ⟨m', hm, h7⟩ := strRun_units hok h1
    obtain ⟨rfl, rfl, rfl⟩ := strRun_close h7
    subst hm
    refine ⟨?_, h3, h4, ?_, List.eq_nil_of_length_eq_zero h6⟩
    · rw [h2, List.take_append, List.take_of_length_le (by omega)]
      simp [encs, encs_append]
    · rw [h5, List.drop_append, List.drop_of_length_le (by omega)]
      simp

set_option maxRecDepth 100000 in
set_option maxHeartbeats 1000000 in
theorem fnString_calls (s : ByteArray) (full : Bool) (n : Int) (ea : Addr) (w : World) (h0 : 0 ≤ n) (h1 : n < 256) (hG : Glob w ea) (hw : 12 ≤ w.heap.size) :
    Calls Tryd.prog 8 #[.string s, .bool full, .int .u8 n] w fun e w' => e = .returned (.bool true) ∧ Below w.heap.size w w' := by
  have HG := Lib.hid hG
  clear hG
  by_cases hs : (s.size : Int) ≤ 2147483647
  case neg =>
    have hs' : decide (2147483647 < (s.size : Int)) = true := by simp; omega
    go_enter Tryd.func8, Tryd.ntmps8
    go_wp2_with fail
    go_ret
    exact ⟨rfl, Below.refl _ _⟩
  have hs' : decide (2147483647 < (s.size : Int)) = false := by simp; omega
  go_enter Tryd.func8, Tryd.ntmps8
  go_wp2_with fail
  go_at_call 17
  refine (textok_calls s _ (by omega)).mono ?_
  rintro e w1 ⟨⟨b1, rfl, hb1⟩, hB1⟩
  cases b1
  · go_wp2_with fail
    go_ret
    exact ⟨rfl, hB1⟩
  obtain ⟨rs, hrs, hok, h60⟩ := hb1 rfl
  have HRS := Lib.hid hrs
  have HOK0 := Lib.hid hok
  have HB1 := Lib.hid hB1
  clear hb1 hB1 hrs hok
  go_wp2_with fail
  go_at_call 27
  refine (quoted_calls s 34 full rs _ (.inl rfl) HRS.out HOK0.out h60).mono ?_
  rintro e w2 ⟨rfl, hB2⟩
  have HB2 : Hid (Below w.heap.size w w2) := HB1.out.trans (hB2.mono HB1.out.size)
  obtain ⟨Q, hQ⟩ : ∃ Q : ByteArray, Q = ⟨(encs (34 :: (unitsQ 34 full rs ++ [34]))).toArray⟩ := ⟨_, rfl⟩
  rw [← hQ]
  have HQ := Lib.hid hQ
  clear hB2 hQ
  go_wp2_with fail
  go_at_call 19
  refine (behind_calls n _ h0 h1).mono ?_
  rintro e w3 ⟨⟨b, hb, rfl⟩, hB3⟩
  have hT := str_text (full := full) HRS.out HOK0.out h60 hb
  rw [← HQ.out] at hT
  obtain ⟨hok, hd, hmax, hR⟩ := hT
  have HB3 : Hid (Below w.heap.size w w3) := HB2.out.trans (hB3.mono HB2.out.size)
  have hlen : ¬ 9223372036854775807 < Q.size + (encs b).length := by
    have h2 : (⟨(encs b).toArray⟩ : ByteArray).size = (encs b).length := by show (encs b).toArray.size = _; simp
    simp only [ByteArray.size_append] at hmax
    omega
  rw [chOf_firstOf b]
  have HR := Lib.hid hR
  have HOK := Lib.hid hok
  have HD := Lib.hid hd
  have HM := Lib.hid hmax
  clear hb hB3 hR hok hd hmax
  go_wp2_with fail
  go_at_call 25
  refine (implString_calls _ 34 (unitsQ 34 full rs ++ 34 :: b) ea (reads_string _) _ (glob_below HG.out HB3.out) HOK.out HD.out HM.out (Nat.le_trans hw HB3.out.size)).mono ?_
  rintro e w4 ⟨lit, kind, bad, ch, ns, hIs, v, l', rfl, htx, hrow, hB4⟩
  obtain ⟨rfl, rfl, rfl, rfl, rfl⟩ := HR.out _ _ _ _ _ hIs
  obtain ⟨ta, tc, rfl⟩ := no_note htx hrow
  have HB4 : Hid (Below w.heap.size w w4) := HB3.out.trans (hB4.mono HB3.out.size)
  clear hIs htx hrow hB4
  go_wp2_with fail
  go_at_call 20
  refine (is_true _ 4 _ ta tc _).mono ?_
  rintro e w5 ⟨rfl, hB5⟩
  go_wp2_with fail
  go_ret
  exact ⟨rfl, HB4.out.trans (hB5.mono HB4.out.size)⟩
end Go.Proofs.YtnehkpoggkfikaaDoor
