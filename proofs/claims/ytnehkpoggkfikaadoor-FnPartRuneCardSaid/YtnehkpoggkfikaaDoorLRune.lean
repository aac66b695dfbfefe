/-
  The statements on runes, walked: one character between quotes, none or more than one, and one that does not end. Conditions: each law's own.
-/
import Derived.Test.YtnehkpoggkfikaaDoorDRune
import Derived.Test.YtnehkpoggkfikaaDoorRuneW
import Derived.Test.YtnehkpoggkfikaaDoorLStrO
namespace Go.Proofs.YtnehkpoggkfikaaDoor
open Go.RowKit
set_option linter.unusedVariables false

/-- A rune: what the scanner reads. -/
def RuneIs (l : List Nat) : TokR := fun lit kind bad ch ns => ∃ m e ok, RuneRun l 0 true m e ok ∧ lit = ⟨(enc 39 ++ encs (l.take m)).toArray⟩ ∧ kind = 3 ∧ bad = !ok ∧ ch = chOf (l.drop m) ∧ ns.length = e
theorem reads_rune (l : List Nat) : ReadsRune (RuneIs l) 39 l 0 := by
  intro E w h
  have ho : okAll l := h.okAll
  refine (rune_calls E l 0 1 1 w h.sa h.tail).mono ?_
  rintro e w' ⟨rfl, hK, p, l', n, ok, ⟨m, h1, h2, rfl, rfl⟩, ns, h5, hL⟩
  exact TokEnd.mk hK ⟨m, n, ok, h1, rfl, rfl, rfl, rfl, h5⟩ (by omega) (drop_bounds ho m) hL.end

/-- What a quoted text gives, read as a rune. -/
def RuneText (Q : ByteArray) (b U : List Nat) (n : Nat) : Prop :=
  okAll (39 :: (U ++ 39 :: b)) ∧ ((Q ++ ⟨(encs b).toArray⟩ : ByteArray).data.toList = encs (39 :: (U ++ 39 :: b))) ∧ ((Q ++ ⟨(encs b).toArray⟩ : ByteArray).size : Int) ≤ 1900 ∧
  (∀ lit kind bad ch ns, RuneIs (U ++ 39 :: b) lit kind bad ch ns → lit = Q ∧ kind = 3 ∧ bad = !(n == 1) ∧ ch = chOf b ∧ ns.length = er (n == 1))
theorem rune_text {s : ByteArray} {rs b : List Nat} (hs : s.data.toList = encs rs) (hok : okAll rs) (h60 : s.size ≤ 60) (hb : b ∈ behinds) : RuneText ⟨(encs (39 :: (unitsQ 39 false rs ++ [39]))).toArray⟩ b (unitsQ 39 false rs) rs.length := by
  obtain ⟨okb, hb2⟩ := behinds_ok hb
  have hU := unitsQ_ok 39 false rs hok
  have o39 : okR 39 := by unfold okR; omega
  have hlen := units_bytes 39 false rs (by omega)
  have hrs := rs_le hs h60
  have e39 : enc 39 = [39] := by decide +kernel
  refine ⟨okAll_cons.2 ⟨o39, okAll_append.2 ⟨hU, okAll_cons.2 ⟨o39, okb⟩⟩⟩, ?_, ?_, ?_⟩
  · simp only [ByteArray.data_append, Array.toList_append, encs, encs_append]
    simp
  · simp only [ByteArray.size_append]
    have h1 : (⟨(encs (39 :: (unitsQ 39 false rs ++ [39]))).toArray⟩ : ByteArray).size = (encs (39 :: (unitsQ 39 false rs ++ [39]))).length := by show (encs _).toArray.size = _; simp
    have h2 : (⟨(encs b).toArray⟩ : ByteArray).size = (encs b).length := by show (encs b).toArray.size = _; simp
    rw [h1, h2]
    simp only [encs, encs_append, e39, List.length_append, List.length_cons, List.length_nil]
    omega
  · rintro lit kind bad ch ns ⟨m, e, ok, h1, h2, h3, h4, h5, h6⟩
    obtain ⟨m', hm, h7⟩ := runeRun_units hok h1
    obtain ⟨rfl, rfl, rfl⟩ := runeRun_close h7
    subst hm
    refine ⟨?_, h3, ?_, ?_, ?_⟩
    · rw [h2, List.take_append, List.take_of_length_le (by omega)]
      simp [encs, encs_append]
    · rw [h4]; simp
    · rw [h5, List.drop_append, List.drop_of_length_le (by omega)]
      simp
    · rw [h6]; simp only [er, Nat.zero_add, Bool.true_and]; cases h : (rs.length == 1) <;> simp_all

set_option maxRecDepth 100000 in
set_option maxHeartbeats 2000000 in
theorem fnRune_calls (s : ByteArray) (n : Int) (ea : Addr) (w : World) (h0 : 0 ≤ n) (h1 : n < 256) (hG : Glob w ea) (hw : 12 ≤ w.heap.size) :
    Calls Tryd.prog 10 #[.string s, .int .u8 n] w fun e w' => e = .returned (.bool true) ∧ Below w.heap.size w w' := by
  have HG := Lib.hid hG
  clear hG
  by_cases hs : (s.size : Int) ≤ 2147483647
  case neg =>
    have hs' : decide (2147483647 < (s.size : Int)) = true := by simp; omega
    go_enter Tryd.func10, Tryd.ntmps10
    go_wp2_with fail
    go_ret
    exact ⟨rfl, Below.refl _ _⟩
  have hs' : decide (2147483647 < (s.size : Int)) = false := by simp; omega
  go_enter Tryd.func10, Tryd.ntmps10
  go_wp2_with fail
  go_at_call 17
  refine (textok_calls s _ (by omega)).mono ?_
  rintro e w1 ⟨⟨b1, rfl, hb1⟩, hB1⟩
  cases b1
  · go_wp2_with fail
    go_ret
    exact ⟨rfl, hB1⟩
  obtain ⟨rs, hrs, hok, h60⟩ := hb1 rfl
  have HRS := Lib.hid hrs
  have HOK0 := Lib.hid hok
  have HB1 := Lib.hid hB1
  clear hb1 hB1 hrs hok
  go_wp2_with fail
  go_at_call 27
  refine (quoted_calls s 39 false rs _ (.inr rfl) HRS.out HOK0.out h60).mono ?_
  rintro e w2 ⟨rfl, hB2⟩
  have HB2 : Hid (Below w.heap.size w w2) := HB1.out.trans (hB2.mono HB1.out.size)
  obtain ⟨Q, hQ⟩ : ∃ Q : ByteArray, Q = ⟨(encs (39 :: (unitsQ 39 false rs ++ [39]))).toArray⟩ := ⟨_, rfl⟩
  rw [← hQ]
  have HQ := Lib.hid hQ
  clear hB2 hQ
  go_wp2_with fail
  go_at_call 19
  refine (behind_calls n _ h0 h1).mono ?_
  rintro e w3 ⟨⟨b, hb, rfl⟩, hB3⟩
  have hT := rune_text HRS.out HOK0.out h60 hb
  rw [← HQ.out] at hT
  obtain ⟨hok, hd, hmax, hR⟩ := hT
  have HB3 : Hid (Below w.heap.size w w3) := HB2.out.trans (hB3.mono HB2.out.size)
  have hlen : ¬ 9223372036854775807 < Q.size + (encs b).length := by
    have h2 : (⟨(encs b).toArray⟩ : ByteArray).size = (encs b).length := by show (encs b).toArray.size = _; simp
    simp only [ByteArray.size_append] at hmax
    omega
  rw [chOf_firstOf b]
  have HR := Lib.hid hR
  have HOK := Lib.hid hok
  have HD := Lib.hid hd
  have HM := Lib.hid hmax
  clear hb hB3 hR hok hd hmax
  go_wp2_with fail
  go_at_call 28
  refine (implRune_calls _ 39 (unitsQ 39 false rs ++ 39 :: b) ea (reads_rune _) _ (glob_below HG.out HB3.out) HOK.out HD.out HM.out (Nat.le_trans hw HB3.out.size)).mono ?_
  rintro e w4 ⟨lit, kind, bad, ch, ns, hIs, v, l', rfl, htx, hrow, hB4⟩
  obtain ⟨rfl, rfl, hbad, rfl, hns⟩ := HR.out _ _ _ _ _ hIs
  obtain ⟨ta, tc, rfl⟩ := many_notes hns htx hrow
  have HB4 : Hid (Below w.heap.size w w4) := HB3.out.trans (hB4.mono HB3.out.size)
  have HBAD := Lib.hid hbad
  have H60 : Hid (rs.length ≤ 60) := rs_le HRS.out h60
  obtain ⟨k, hk⟩ : ∃ k, k = er (rs.length == 1) := ⟨_, rfl⟩
  rw [← hk]
  have HK := Lib.hid hk
  have HS := Lib.hid (runAt_start HRS.out HOK0.out)
  have hB5 : ∀ o o' : Obj, Below w.heap.size w ((w4.alloc o).alloc o') := fun o o' => (HB4.out.alloc HB4.out.size o).alloc (by have := HB4.out.size; simp; omega) o'
  have HB5 := Lib.hid hB5
  clear hIs htx hrow hB4 hbad hns hk hB5
  go_wp2_with fail
  go_loopg [9] (rs.length + 5) (fun g nv wr => ∃ (r1 rest : List Nat) (pos : Nat), wr = (w4.alloc (.cells #[.string lit, .int .i64 3, .bool bad, .int .i64 (chOf b), .slice ta k tc] 29)).iter s pos ∧ g = rest.length + 5 ∧ nv = .int .i64 (r1.length : Int) ∧ Hid (RunAt s rs r1 rest pos))
  case atStart => exact ⟨[], rs, 0, rfl, rfl, rfl, HS.out⟩
  case round =>
    obtain ⟨r1, rest, pos, rfl, rfl, rfl, hRA⟩ := hrel
    have hr60 : (r1.length : Int) ≤ 60 := by have := run_small hRA.out h60; omega
    cases rest with
    | nil =>
      have hE := Lib.hid (runAt_end hRA.out)
      have hnx : ∀ ty, (Instr.next (.pointer (some ⟨w4.heap.size + 1, 0, none⟩)) true ty).run Tryd.prog ((w4.alloc (.cells #[.string lit, .int .i64 3, .bool bad, .int .i64 (chOf b), .slice ta k tc] 29)).iter s pos) = .ok (.tuple #[.bool false]) ((w4.alloc (.cells #[.string lit, .int .i64 3, .bool bad, .int .i64 (chOf b), .slice ta k tc] 29)).iter s pos) := fun ty => by
        have h := run_next_end (P := Tryd.prog) (w4.alloc (.cells #[.string lit, .int .i64 3, .bool bad, .int .i64 (chOf b), .slice ta k tc] 29)) s pos ty hE.out.1
        rw [show (w4.alloc (.cells #[.string lit, .int .i64 3, .bool bad, .int .i64 (chOf b), .slice ta k tc] 29)).heap.size = w4.heap.size + 1 by simp] at h
        exact h
      have hcell : ∀ i, ((w4.alloc (.cells #[.string lit, .int .i64 3, .bool bad, .int .i64 (chOf b), .slice ta k tc] 29)).iter s pos).cell? ⟨w4.heap.size, i, none⟩ = #[Value.string lit, .int .i64 3, .bool bad, .int .i64 (chOf b), .slice ta k tc][i]? := fun i => by
        rw [World.iter, World.cell?_alloc_old _ _ _ (by simp)]
        unfold World.cell?
        rw [(MapKept.heap_alloc w4 _).1]; rfl
      have d0 := hcell 0
      have d1 := hcell 1
      have d2 := hcell 2
      have d3 := hcell 3
      have d4 := hcell 4
      simp at d0 d1 d2 d3 d4
      clear hcell
      by_cases hn1 : r1.length = 1
      · have hbf : bad = false := by rw [HBAD.out, ← hE.out.2]; simp [hn1]
        have hk0 : k = 0 := by rw [HK.out, ← hE.out.2]; simp [hn1, er]
        subst hbf hk0
        have t1 : ((r1.length : Int) == 1) = true := by simp [hn1]
        clear hn1
        go_wp2_with fail
        go_at_call 20
        refine (is_true _ 3 _ ta tc _).mono ?_
        rintro e w5 ⟨rfl, hB6⟩
        go_wp2_with fail
        go_ret
        exact ⟨rfl, (HB5.out _ _).trans (hB6.mono (HB5.out _ _).size)⟩
      · have hk0 : k = 1 := by rw [HK.out, ← hE.out.2]; simp [hn1, er]
        subst hk0
        have t1 : ((r1.length : Int) == 1) = false := by simp; omega
        clear hn1
        go_wp2_with fail
        go_ret
        exact ⟨rfl, HB5.out _ _⟩
    | cons x rest =>
      obtain ⟨hp, hdec, hokx, hr2⟩ := runAt_next hRA.out
      have hnx : ∀ ty, (Instr.next (.pointer (some ⟨w4.heap.size + 1, 0, none⟩)) true ty).run Tryd.prog ((w4.alloc (.cells #[.string lit, .int .i64 3, .bool bad, .int .i64 (chOf b), .slice ta k tc] 29)).iter s pos) = .ok (.tuple #[.bool true, .int .i64 pos, .int .i32 (x : Int)]) ((w4.alloc (.cells #[.string lit, .int .i64 3, .bool bad, .int .i64 (chOf b), .slice ta k tc] 29)).iter s (pos + (enc x).length)) := fun ty => by
        have h := run_next_any (P := Tryd.prog) (w4.alloc (.cells #[.string lit, .int .i64 3, .bool bad, .int .i64 (chOf b), .slice ta k tc] 29)) s pos ty hp
        rw [show (w4.alloc (.cells #[.string lit, .int .i64 3, .bool bad, .int .i64 (chOf b), .slice ta k tc] 29)).heap.size = w4.heap.size + 1 by simp, hdec] at h
        exact h
      have hnx2 := Lib.hid hr2
      clear hp hdec hokx hr2
      go_wp2_with fail
      go_roundg (rest.length + 5)
      case measure => simp
      case rel => exact ⟨r1 ++ [x], rest, _, rfl, rfl, by simp only [List.length_append, List.length_cons, List.length_nil]; go_num, hnx2.out⟩

set_option maxRecDepth 100000 in
set_option maxHeartbeats 1000000 in
theorem fnRuneOpen_calls (s : ByteArray) (ea : Addr) (w : World) (hG : Glob w ea) (hw : 12 ≤ w.heap.size) :
    Calls Tryd.prog 11 #[.string s] w fun e w' => e = .returned (.bool true) ∧ Below w.heap.size w w' := by
  have HG := Lib.hid hG
  clear hG
  by_cases hs : (s.size : Int) ≤ 2147483647
  case neg =>
    have hs' : decide (2147483647 < (s.size : Int)) = true := by simp; omega
    go_enter Tryd.func11, Tryd.ntmps11
    go_wp2_with fail
    go_ret
    exact ⟨rfl, Below.refl _ _⟩
  have hs' : decide (2147483647 < (s.size : Int)) = false := by simp; omega
  go_enter Tryd.func11, Tryd.ntmps11
  go_wp2_with fail
  go_at_call 17
  refine (textok_calls s _ (by omega)).mono ?_
  rintro e w1 ⟨⟨b1, rfl, hb1⟩, hB1⟩
  cases b1
  · go_wp2_with fail
    go_ret
    exact ⟨rfl, hB1⟩
  obtain ⟨rs, hrs, hok, h60⟩ := hb1 rfl
  have HRS := Lib.hid hrs
  have HOK0 := Lib.hid hok
  have HB1 := Lib.hid hB1
  clear hb1 hB1 hrs hok
  go_wp2_with fail
  go_at_call 27
  refine (quoted_calls s 39 false rs _ (.inr rfl) HRS.out HOK0.out h60).mono ?_
  rintro e w2 ⟨rfl, hB2⟩
  have HB2 : Hid (Below w.heap.size w w2) := HB1.out.trans (hB2.mono HB1.out.size)
  obtain ⟨Q, hQ⟩ : ∃ Q : ByteArray, Q = ⟨(encs (39 :: (unitsQ 39 false rs ++ [39]))).toArray⟩ := ⟨_, rfl⟩
  rw [← hQ]
  have HC := Lib.hid (cut_last 39 (39 :: unitsQ 39 false rs) 39 (by decide +kernel) Q hQ)
  have hq1 : (1 : Int) ≤ (Q.size : Int) := by have := HC.out.1; omega
  obtain ⟨Q2, hQ2⟩ : ∃ Q2, Q2 = Q.extract 0 (Q.size - 1) := ⟨_, rfl⟩
  have hd2 : Q2.data.toList = encs (39 :: unitsQ 39 false rs) := by rw [hQ2]; exact HC.out.2 _ rfl
  have HT : Hid (okAll (39 :: unitsQ 39 false rs) ∧ Q2.data.toList = encs (39 :: unitsQ 39 false rs) ∧ (Q2.size : Int) ≤ 700 ∧ (∀ lit kind bad ch ns, RuneIs (unitsQ 39 false rs) lit kind bad ch ns → ns.length = 1)) := by
    have hU := unitsQ_ok 39 false rs HOK0.out
    have hlen := units_bytes 39 false rs (by omega)
    have hrs := rs_le HRS.out h60
    have e39 : enc 39 = [39] := by decide +kernel
    have hz : Q2.size = 1 + (encs (unitsQ 39 false rs)).length := by
      have : Q2.data.toList.length = Q2.size := rfl
      rw [hd2] at this
      simp only [encs, e39, List.length_append, List.length_cons, List.length_nil] at this
      omega
    refine ⟨okAll_cons.2 ⟨by unfold okR; omega, hU⟩, hd2, by omega, ?_⟩
    rintro lit kind bad ch ns ⟨m, e, ok, h1, h2, h3, h4, h5, h6⟩
    rw [show unitsQ 39 false rs = unitsQ 39 false rs ++ [] from (List.append_nil _).symm] at h1
    obtain ⟨m', hm, h7⟩ := runeRun_units HOK0.out h1
    rw [h6, runeRun_eof h7]; rfl
  have hq2 : (Q.size : Int) ≤ 701 := by
    have h1 := HT.out.2.2.1
    rw [hQ2, ByteArray.size_extract] at h1
    omega
  have hfld := field_told
  have HQ2 := Lib.hid hQ2
  clear hB2 hQ hQ2 hd2
  go_wp2_with fail
  go_at_call 28
  rw [← HQ2.out]
  refine (implRune_calls _ 39 (unitsQ 39 false rs) ea (reads_rune _) _ (glob_below HG.out HB2.out) HT.out.1 HT.out.2.1 (by have := HT.out.2.2.1; omega) (Nat.le_trans hw HB2.out.size)).mono ?_
  rintro e w4 ⟨lit, kind, bad, ch, ns, hIs, v, l', rfl, htx, hrow, hB4⟩
  obtain ⟨ta, tc, rfl⟩ := many_notes (HT.out.2.2.2 _ _ _ _ _ hIs) htx hrow
  have HB4 : Hid (Below w.heap.size w w4) := HB2.out.trans (hB4.mono HB2.out.size)
  clear hIs htx hrow hB4
  go_wp2_with fail
  go_ret
  exact ⟨rfl, HB4.out⟩
end Go.Proofs.YtnehkpoggkfikaaDoor
