/-
  The statement on escapes in a string, walked. Conditions: the law's own.
-/
import Derived.Test.YtnehkpoggkfikaaDoorLStrO
import Derived.Test.YtnehkpoggkfikaaDoorSpecE
namespace Go.Proofs.YtnehkpoggkfikaaDoor
open Go.RowKit
set_option linter.unusedVariables false

/-- What an escape's text gives. -/
def EscText (Q : ByteArray) (b rs : List Nat) : Prop :=
  okAll (34 :: (92 :: rs ++ 34 :: b)) ∧ ((Q ++ ⟨(encs b).toArray⟩ : ByteArray).data.toList = encs (34 :: (92 :: rs ++ 34 :: b))) ∧ ((Q ++ ⟨(encs b).toArray⟩ : ByteArray).size : Int) ≤ 1900 ∧
  (escB 34 (92 :: encs rs) = 0 → ∀ lit kind bad ch ns, StrIs (92 :: rs ++ 34 :: b) lit kind bad ch ns → 0 < ns.length) ∧
  (escB 34 (92 :: encs rs) ≠ 0 → ∀ lit kind bad ch ns, StrIs (92 :: rs ++ 34 :: b) lit kind bad ch ns → lit = Q ∧ kind = 4 ∧ bad = false ∧ ch = chOf b ∧ ns = [])
theorem esc_text {s : ByteArray} {rs b : List Nat} (hs : s.data.toList = encs rs) (hok : okAll rs) (h60 : s.size ≤ 60) (h0 : rs ≠ []) (hN : ∀ c ∈ rs, c ≠ 34 ∧ c ≠ 92 ∧ c ≠ 10) (hb : b ∈ behinds) : EscText ((⟨#[34, 92]⟩ ++ s) ++ ⟨#[34]⟩) b rs := by
  obtain ⟨okb, hb2⟩ := behinds_ok hb
  have o34 : okR 34 := by unfold okR; omega
  have o92 : okR 92 := by unfold okR; omega
  have e34 : enc 34 = [34] := by decide +kernel
  have e92 : enc 92 = [92] := by decide +kernel
  have hd : ((((⟨#[34, 92]⟩ ++ s) ++ ⟨#[34]⟩) ++ ⟨(encs b).toArray⟩ : ByteArray).data.toList = encs (34 :: (92 :: rs ++ 34 :: b))) := by
    simp only [ByteArray.data_append, Array.toList_append, hs, encs, encs_append, e34, e92, List.cons_append]
    simp
  refine ⟨okAll_cons.2 ⟨o34, okAll_cons.2 ⟨o92, okAll_append.2 ⟨hok, okAll_cons.2 ⟨o34, okb⟩⟩⟩⟩, hd, ?_, ?_, ?_⟩
  · simp only [ByteArray.size_append]
    have z2 : (⟨#[34, 92]⟩ : ByteArray).size = 2 := rfl
    have z1 : (⟨#[34]⟩ : ByteArray).size = 1 := rfl
    have z4 : (⟨(encs b).toArray⟩ : ByteArray).size = (encs b).length := by show (encs b).toArray.size = _; simp
    omega
  · rintro hz lit kind bad ch ns ⟨m, e, ok, h1, h2, h3, h4, h5, h6⟩
    rw [h6]
    exact (strRun_escape hok h0 hN h1 92).1 hz
  · rintro hz lit kind bad ch ns ⟨m, e, ok, h1, h2, h3, h4, h5, h6⟩
    obtain ⟨rfl, rfl, rfl⟩ := (strRun_escape hok h0 hN h1 92).2 hz
    have hl : rs.length + 2 = (92 :: rs).length + 1 := by simp
    refine ⟨?_, h3, h4, ?_, List.eq_nil_of_length_eq_zero h6⟩
    · rw [h2, hl, List.take_append, List.take_of_length_le (by omega)]
      apply ByteArray.ext
      apply Array.toList_inj.1
      simp only [ByteArray.data_append, Array.toList_append, hs, e34]
      simp [encs, encs_append, e34, e92]
    · rw [h5, hl, List.drop_append, List.drop_of_length_le (by omega)]
      simp

theorem esc_arg {s : ByteArray} {rs : List Nat} (hs : s.data.toList = encs rs) (h0 : rs ≠ []) (Q : ByteArray) (hQ : Q = (⟨#[34, 92]⟩ ++ s) ++ ⟨#[34]⟩) : Q.size = s.size + 3 ∧ ∀ k, k = s.size + 2 → ∃ c L, TwoB (Q.extract 1 k) 92 c L ∧ (92 :: encs rs) = 92 :: c :: L ∧ L.length + 1 = s.size := by
  have h1 : Q.data.toList = 34 :: 92 :: (encs rs ++ [34]) := by rw [hQ]; simp [ByteArray.data_append, Array.toList_append, hs]
  have hz : s.data.toList.length = s.size := rfl
  rw [hs] at hz
  have hq : Q.data.toList.length = Q.size := rfl
  rw [h1] at hq
  simp only [List.length_cons, List.length_append, List.length_nil] at hq
  refine ⟨by omega, ?_⟩
  rintro k rfl
  have hcut : (Q.extract 1 (s.size + 2)).data.toList = 92 :: encs rs := by
    rw [ByteArray.data_extract, Array.toList_extract, h1]
    have : s.size + 2 - 1 = (92 :: encs rs).length := by simp; omega
    show List.take (s.size + 2 - 1) (List.drop 1 (34 :: 92 :: (encs rs ++ [34]))) = _
    rw [this]
    show List.take _ ((92 :: encs rs) ++ [34]) = _
    rw [List.take_left' rfl]
  cases hc : encs rs with
  | nil =>
    cases rs with
    | nil => exact absurd rfl h0
    | cons x l => have := enc_len_pos x; have h3 := congrArg List.length hc; simp only [encs, List.length_append, List.length_nil] at h3; omega
  | cons c L => exact ⟨c, L, ⟨by rw [hcut, hc]⟩, rfl, by rw [← hz, hc]; rfl⟩

set_option maxRecDepth 100000 in
set_option maxHeartbeats 2000000 in
theorem fnEscape_calls (s : ByteArray) (n : Int) (ea : Addr) (w : World) (h0 : 0 ≤ n) (h1 : n < 256) (hG : Glob w ea) (hw : 12 ≤ w.heap.size) :
    Calls Tryd.prog 7 #[.string s, .int .u8 n] w fun e w' => e = .returned (.bool true) ∧ Below w.heap.size w w' := by
  have HG := Lib.hid hG
  clear hG
  by_cases hs : (s.size : Int) ≤ 2147483647
  case neg =>
    have hs' : decide (2147483647 < (s.size : Int)) = true := by simp; omega
    go_enter Tryd.func7, Tryd.ntmps7
    go_wp2_with fail
    go_ret
    exact ⟨rfl, Below.refl _ _⟩
  have hs' : decide (2147483647 < (s.size : Int)) = false := by simp; omega
  by_cases hz : s.size = 0
  · have e0 : s = ByteArray.empty := by
      apply ByteArray.ext
      exact Array.eq_empty_of_size_eq_zero hz
    subst e0
    go_enter Tryd.func7, Tryd.ntmps7
    go_wp2_with fail
    go_ret
    exact ⟨rfl, Below.refl _ _⟩
  have hne : s.toList.isEmpty = false := by
    cases hd : s.toList with
    | nil =>
      have h2 : s.data.toList = [] := by rw [← ByteArray.toList_eq]; exact hd
      have : s.data.toList.length = s.size := rfl
      rw [h2] at this; simp at this; omega
    | cons a l => rfl
  have hne2 : ¬ s.toList = [] := by intro e; rw [e] at hne; cases hne
  have HZ := Lib.hid hz
  clear hz
  go_enter Tryd.func7, Tryd.ntmps7
  go_wp2_with fail
  go_at_call 17
  refine (textok_calls s _ (by omega)).mono ?_
  rintro e w1 ⟨⟨b1, rfl, hb1⟩, hB1⟩
  cases b1
  · go_wp2_with fail
    go_ret
    exact ⟨rfl, hB1⟩
  obtain ⟨rs, hrs, hok, h60⟩ := hb1 rfl
  have HRS := Lib.hid hrs
  have HOK0 := Lib.hid hok
  have HB1 := Lib.hid hB1
  clear hb1 hB1 hrs hok
  go_wp2_with fail
  go_at_call 18
  refine (without_calls s ⟨#[34, 92, 10]⟩ _ (by omega) (by decide)).mono ?_
  rintro e w2 ⟨⟨b2, rfl, hb2⟩, hB2⟩
  have HB2 : Hid (Below w.heap.size w w2) := HB1.out.trans (hB2.mono HB1.out.size)
  clear hB2
  cases b2
  · go_wp2_with fail
    go_ret
    exact ⟨rfl, HB2.out⟩
  have hN0 := hb2 rfl
  have HN : Hid (rs ≠ [] ∧ ∀ c ∈ rs, c ≠ 34 ∧ c ≠ 92 ∧ c ≠ 10) := by
    have hrs := HRS.out
    refine ⟨?_, fun c hc => ⟨?_, ?_, ?_⟩⟩
    · rintro rfl
      have : s.data.toList.length = s.size := rfl
      rw [hrs] at this
      exact HZ.out (by simpa [encs] using this.symm)
    · rintro rfl; exact none_of hrs 34 (by omega) 34 (by decide +kernel) (fun i hi => hN0 i hi 0 (by decide)) hc
    · rintro rfl; exact none_of hrs 92 (by omega) 92 (by decide +kernel) (fun i hi => hN0 i hi 1 (by decide)) hc
    · rintro rfl; exact none_of hrs 10 (by omega) 10 (by decide +kernel) (fun i hi => hN0 i hi 2 (by decide)) hc
  have hlen1 : ¬ 9223372036854775807 < 2 + s.size := by omega
  have hlen2 : ¬ 9223372036854775807 < 2 + s.size + 1 := by omega
  clear hb2 hN0
  go_wp2_with fail
  go_at_call 19
  refine (behind_calls n _ h0 h1).mono ?_
  rintro e w3 ⟨⟨b, hb, rfl⟩, hB3⟩
  have hT := esc_text HRS.out HOK0.out h60 HN.out.1 HN.out.2 hb
  obtain ⟨Q, hQ⟩ : ∃ Q : ByteArray, Q = ⟨#[34, 92]⟩ ++ s ++ ⟨#[34]⟩ := ⟨_, rfl⟩
  rw [← hQ] at hT ⊢
  obtain ⟨hok, hd, hmax, hR0, hR1⟩ := hT
  have hA := esc_arg HRS.out HN.out.1 Q hQ
  have hqs : (Q.size : Int) ≤ 63 := by have := hA.1; omega
  have hqs1 : (3 : Int) ≤ (Q.size : Int) := by have := hA.1; omega
  have HA := Lib.hid hA
  have HB3 : Hid (Below w.heap.size w w3) := HB2.out.trans (hB3.mono HB2.out.size)
  have hlen : ¬ 9223372036854775807 < Q.size + (encs b).length := by have := (behinds_ok hb).2; omega
  rw [chOf_firstOf b]
  have HR0 := Lib.hid hR0
  have HR1 := Lib.hid hR1
  have HOK := Lib.hid hok
  have HD := Lib.hid hd
  have HM := Lib.hid hmax
  clear hb hB3 hR0 hR1 hok hd hmax hQ hA
  go_wp2_with fail
  go_at_call 25
  refine (implString_calls _ 34 (92 :: rs ++ 34 :: b) ea (reads_string _) _ (glob_below HG.out HB3.out) HOK.out HD.out HM.out (Nat.le_trans hw HB3.out.size)).mono ?_
  rintro e w4 ⟨lit, kind, bad, ch, ns, hIs, v, l', rfl, htx, hrow, hB4⟩
  obtain ⟨k, hk⟩ : ∃ k, ns.length = k := ⟨_, rfl⟩
  obtain ⟨ta, tc, rfl⟩ := many_notes hk htx hrow
  have HB4 : Hid (Below w.heap.size w w4) := HB3.out.trans (hB4.mono HB3.out.size)
  have HIS := Lib.hid hIs
  have HK := Lib.hid hk
  clear hIs htx hrow hB4 hk
  go_wp2_with fail
  go_at_call 26
  obtain ⟨c, L, h2, hesc, hLl⟩ := HA.out.2 (Q.size - 1) (by have := HA.out.1; omega)
  refine (spec_escape _ 92 c L _ h2 (by omega)).mono ?_
  rintro e w5 ⟨rfl, rfl⟩
  rw [h2.list, ← hesc]
  have HB5 : ∀ o : Obj, Below w.heap.size w (w4.alloc o) := fun o => HB4.out.alloc HB4.out.size o
  have HB5 := Lib.hid HB5
  by_cases hz : escB 34 (92 :: encs rs) = 0
  · have hpos := HR0.out hz _ _ _ _ _ HIS.out
    have hkp : (0 : Int) < (k : Int) := by have := HK.out; omega
    have hkd : decide (0 < k) = true := by simp; omega
    rw [hz]
    clear hz hpos h2 hesc hLl HB5
    have HB5 : ∀ o : Obj, Below w.heap.size w (w4.alloc o) := fun o => HB4.out.alloc HB4.out.size o
    have HB5 := Lib.hid HB5
    go_wp2_with fail
    go_ret
    exact ⟨rfl, HB5.out _⟩
  · obtain ⟨rfl, rfl, rfl, rfl, rfl⟩ := HR1.out hz _ _ _ _ _ HIS.out
    obtain rfl : k = 0 := HK.out.symm
    have hz1 : (((escB 34 (92 :: encs rs) : Nat) : Int) == 0) = false := by simp; omega
    generalize escB 34 (92 :: encs rs) = z at *
    clear hz h2 hesc hLl HB5
    have HB5 : ∀ o : Obj, Below w.heap.size w (w4.alloc o) := fun o => HB4.out.alloc HB4.out.size o
    have HB5 := Lib.hid HB5
    go_wp2_with fail
    go_at_call 20
    refine (is_true _ 4 _ ta tc _).mono ?_
    rintro e w6 ⟨rfl, hB6⟩
    go_wp2_with fail
    go_ret
    exact ⟨rfl, (HB5.out _).trans (hB6.mono (HB5.out _).size)⟩
end Go.Proofs.YtnehkpoggkfikaaDoor
