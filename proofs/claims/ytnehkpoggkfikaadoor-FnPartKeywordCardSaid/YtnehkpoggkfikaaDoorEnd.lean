/-
  The walks through the scanner's step (nextch) at the text's end, and at the first character. Conditions: each law's own.
-/
import Derived.Test.YtnehkpoggkfikaaDoorNext
namespace Go.Proofs.YtnehkpoggkfikaaDoor
open Go.RowKit
set_option linter.unusedVariables false

theorem i166 : ∃ j, Tryd.prog.info? 166 = some j := by
  have h : (Tryd.prog.info? 166).isSome = true := by kernel_rfl
  exact Option.isSome_iff_exists.1 h
theorem i150 : ∃ i, Tryd.prog.info? 150 = some i ∧ i.comparable = true := by
  have h : (Tryd.prog.info? 150).map (·.comparable) = some true := by kernel_rfl
  exact Option.map_eq_some_iff.1 h
theorem u70 : ∃ ms, Tryd.prog.underlying 70 = some (.interface ms) := ⟨_, Tryd.underlying70⟩
theorem neq_same (a : Addr) (w : World) : Sem.run Tryd.prog (binOp .neq 70 (.iface 150 (.pointer (some a))) (.iface 150 (.pointer (some a)))) w = .ok (.bool false) w := by
  obtain ⟨j, hj⟩ := i166
  obtain ⟨i, hi, hc⟩ := i150
  obtain ⟨ms, hm⟩ := u70
  simp only [binOp]
  simp [Op.equal, Op.maxDepth, run_equalIn_iface_ptr_same (P := Tryd.prog) w 9998 a hm Tryd.underlying150 hi hc hj]
theorem wrap0 : IntKind.i64.wrap 0 = 0 := by decide

set_option maxRecDepth 100000 in
set_option maxHeartbeats 4000000 in
/-- The end, met for the first time, a segment active. -/
theorem next_end_act (c : Cfg) (cur : List Value) (r line col chw : Nat) (ch : Int) (w : World) 
    (h : Raw w c cur .nilIface 0 r r line col ch chw c.xn) (hsent : cur[r]? = some (.int .u8 128)) (hG : Glob w c.ea)
    (hr : (r : Int) ≤ 2000) (hline : (line : Int) ≤ 8000) (hcol : (col : Int) ≤ 8000) (hchw : (chw : Int) ≤ 4) :
    Calls Tryd.prog 57 #[.pointer (some ⟨c.sb, 0, none⟩)] w (Filled c w (cur.set r (.int .u8 128)) (.iface 150 (.pointer (some c.ea))) 0 r r (lineOf ch line) (colOf ch col chw) (-1) 0 c.xn) := by
  have HG := Lib.hid hG
  have bc := h.byte hsent
  have HB := Lib.hid hsent
  have H := Lib.hid h
  obtain ⟨ok, c0, c1, c2, c3, c4, c5, c6, c7, c8, c9, c10, fs, buf, len, r0, r1, r2, fr⟩ := h
  obtain ⟨o1, o2, o3, o4, o5, o6⟩ := ok
  have hr0 : (0 : Int) ≤ r := by omega
  have hr1 : (r : Int) < 4096 := by omega
  have h4096 : ¬ (4096 = r) := by omega
  have hr2 : (r : Int) ≤ 4096 := by omega
  have e0 := wrap0
  clear c0 c1 c3 c4 buf len r0 r1 r2 fr hG hsent
  have hcc : (ch == 10) = true ∨ (ch == 10) = false := by cases (ch == 10) <;> simp
  have HLC : Hid (((ch == 10) = true → lineOf ch line = line + 1 ∧ colOf ch col chw = 0) ∧ ((ch == 10) = false → lineOf ch line = line ∧ colOf ch col chw = col + chw)) := by
    refine ⟨fun h => ?_, fun h => ?_⟩
    · have : ch = 10 := by simpa using h
      simp [lineOf, colOf, this]
    · have : ¬ ch = 10 := by simpa using h
      simp [lineOf, colOf, this]
  go_enter Tryd.func57, Tryd.ntmps57
  go_step3
  go_wp2
  go_step3
  go_wp2
  go_region
  go_upto_if 18 with fail
  go_cut [] (fun wx => Raw wx c cur .nilIface 0 r r (lineOf ch line) (colOf ch col chw) ch chw c.xn ∧ Fr c w wx)
  case first =>
    rcases hcc with hc1 | hc1
    · go_wp2
      go_meet
      case rel => rw [(HLC.out.1 hc1).1, (HLC.out.1 hc1).2]; exact ⟨((((H.out.set8 (col + chw)).set7 (line + 1)).set8 0)).drew, (((((Fr.refl c w).setCell (.inl ⟨rfl, by simp⟩) _).setCell (.inl ⟨rfl, by simp⟩) _).setCell (.inl ⟨rfl, by simp⟩) _).drew)⟩
    · go_wp2
      go_meet
      case rel => rw [(HLC.out.2 hc1).1, (HLC.out.2 hc1).2]; exact ⟨(H.out.set8 (col + chw)).drew, ((Fr.refl c w).setCell (.inl ⟨rfl, by simp⟩) _).drew⟩
  case rest =>
    obtain ⟨h, hF⟩ := hcut
    have H1 := Lib.hid h
    have HF1 := Lib.hid hF
    have HG1 := HG
    have bc := h.byte HB.out
    clear c2 c5 c6 c7 c8 c9 c10 fs H HG hF hcc HLC
    obtain ⟨ok, c0, c1, c2, c3, c4, c5, c6, c7, c8, c9, c10, fs, buf, len, r0, r1, r2, fr⟩ := h
    clear c0 c1 c3 c4 c7 c8 buf len r0 r1 r2 fr
    go_wp2
    go_region
    go_upto_block 0 with fail
    go_cut [] (fun wx => Raw wx c (cur.set r (.int .u8 128)) (.iface 150 (.pointer (some c.ea))) 0 r r (lineOf ch line) (colOf ch col chw) 128 chw c.xn ∧ Fr c w wx)
    case first =>
      go_wp2_with fail
      go_loopg [] 1 (fun g wr => (g = 1 ∧ Raw wr c cur .nilIface 0 r r (lineOf ch line) (colOf ch col chw) 128 chw c.xn ∧ Fr c w wr) ∨ (g = 0 ∧ Raw wr c (cur.set r (.int .u8 128)) (.iface 150 (.pointer (some c.ea))) 0 r r (lineOf ch line) (colOf ch col chw) 128 chw c.xn ∧ Fr c w wr))
      case atStart => exact .inl ⟨rfl, (H1.out.set9 _).drew, (HF1.out.setCell (.inl ⟨rfl, by simp⟩) _).drew⟩
      case round =>
        rcases hrel with ⟨rfl, hrel⟩ | ⟨rfl, hrel⟩
        · obtain ⟨h, hF⟩ := hrel
          have G := HG1.out.fr h.ok hF
          have H' := Lib.hid h
          have HF := Lib.hid hF
          clear c2 c5 c6 c9 c10 fs bc H1 HF1 hF
          obtain ⟨ok, c0, c1, c2, c3, c4, c5, c6, c7, c8, c9, c10, fs, buf, len, r0, r1, r2, fr⟩ := h
          clear c0 c1 c4 c7 c8 c9 buf len r0 r1 r2 fr
          go_wp2_with fail
          go_quiet ((go_at_call 82; exact Calls.quiet_of_same (full_no _ _ _)))
          go_wp2_with (go_at_call 83; refine (fill_eof_act c cur r _ _ _ _ _ (by exact G.fr H'.out.ok ((Fr.refl _ _).drewN _)) hr (H'.out.drewN _)).mono ?_; rintro e' w' ⟨rfl, hR, hF⟩)
          go_roundg 0
          case measure => omega
          case rel => exact .inr ⟨rfl, hR, (HF.out.drewN _).trans hF⟩
        · obtain ⟨h, hF⟩ := hrel
          have H' := Lib.hid h
          have HF := Lib.hid hF
          clear c2 c5 c6 c9 c10 fs bc H1 HF1 hF
          obtain ⟨ok, c0, c1, c2, c3, c4, c5, c6, c7, c8, c9, c10, fs, buf, len, r0, r1, r2, fr⟩ := h
          clear c0 c1 c4 c7 c8 c9 buf len r0 r1 r2 fr
          go_wp2_with fail
          go_quiet ((go_at_call 82; exact Calls.quiet_of_same (full_no _ _ _)))
          go_wp2
          go_meet
          case rel => exact ⟨H'.out.drewN _, HF.out.drewN _⟩
    case rest =>
      obtain ⟨h, hF⟩ := hcut
      have H' := Lib.hid h
      have HF := Lib.hid hF
      have G := HG1.out.fr h.ok hF
      have ge := G.eof
      have hne := fun w => neq_same c.ea w
      clear c2 c5 c6 c9 c10 fs bc H1 HF1 hF G
      obtain ⟨ok, c0, c1, c2, c3, c4, c5, c6, c7, c8, c9, c10, fs, buf, len, r0, r1, r2, fr⟩ := h
      clear c0 c1 c2 c4 c7 c8 buf len r0 r1 r2 fr
      go_wp2
      go_quiet (fail)
      go_wp2
      go_quiet (fail)
      go_wp2
      rw [Exit.noGoto_ret]
      refine bodyPost_ret (results_none rfl _ _ _) rfl ⟨rfl, ?_, ?_⟩
      · exact ((H'.out.drewN _).set9 (-1)).set10 0
      · exact ((HF.out.drewN _).setCell (.inl ⟨rfl, by simp⟩) _).setCell (.inl ⟨rfl, by simp⟩) _

set_option maxRecDepth 100000 in
set_option maxHeartbeats 4000000 in
/-- The end, met for the first time, no segment active. -/
theorem next_end_stop (c : Cfg) (cur : List Value) (r line col chw : Nat) (ch : Int) (w : World) (hpos : (0 : Int) < r)
    (h : Raw w c cur .nilIface (-1) r r line col ch chw c.xn) (hsent : cur[r]? = some (.int .u8 128)) (hG : Glob w c.ea)
    (hr : (r : Int) ≤ 2000) (hline : (line : Int) ≤ 8000) (hcol : (col : Int) ≤ 8000) (hchw : (chw : Int) ≤ 4) :
    Calls Tryd.prog 57 #[.pointer (some ⟨c.sb, 0, none⟩)] w (Filled c w (cur.set 0 (.int .u8 128)) (.iface 150 (.pointer (some c.ea))) (-1) 0 0 (lineOf ch line) (colOf ch col chw) (-1) 0 c.xn) := by
  have HG := Lib.hid hG
  have bc := h.byte hsent
  have HB := Lib.hid hsent
  have H := Lib.hid h
  obtain ⟨ok, c0, c1, c2, c3, c4, c5, c6, c7, c8, c9, c10, fs, buf, len, r0, r1, r2, fr⟩ := h
  obtain ⟨o1, o2, o3, o4, o5, o6⟩ := ok
  have hr0 : (0 : Int) ≤ r := by omega
  have hr1 : (r : Int) < 4096 := by omega
  have h4096 : ¬ (4096 = r) := by omega
  have hr2 : (r : Int) ≤ 4096 := by omega
  have e0 := wrap0
  clear c0 c1 c3 c4 buf len r0 r1 r2 fr hG hsent
  have hcc : (ch == 10) = true ∨ (ch == 10) = false := by cases (ch == 10) <;> simp
  have HLC : Hid (((ch == 10) = true → lineOf ch line = line + 1 ∧ colOf ch col chw = 0) ∧ ((ch == 10) = false → lineOf ch line = line ∧ colOf ch col chw = col + chw)) := by
    refine ⟨fun h => ?_, fun h => ?_⟩
    · have : ch = 10 := by simpa using h
      simp [lineOf, colOf, this]
    · have : ¬ ch = 10 := by simpa using h
      simp [lineOf, colOf, this]
  go_enter Tryd.func57, Tryd.ntmps57
  go_step3
  go_wp2
  go_step3
  go_wp2
  go_region
  go_upto_if 18 with fail
  go_cut [] (fun wx => Raw wx c cur .nilIface (-1) r r (lineOf ch line) (colOf ch col chw) ch chw c.xn ∧ Fr c w wx)
  case first =>
    rcases hcc with hc1 | hc1
    · go_wp2
      go_meet
      case rel => rw [(HLC.out.1 hc1).1, (HLC.out.1 hc1).2]; exact ⟨((((H.out.set8 (col + chw)).set7 (line + 1)).set8 0)).drew, (((((Fr.refl c w).setCell (.inl ⟨rfl, by simp⟩) _).setCell (.inl ⟨rfl, by simp⟩) _).setCell (.inl ⟨rfl, by simp⟩) _).drew)⟩
    · go_wp2
      go_meet
      case rel => rw [(HLC.out.2 hc1).1, (HLC.out.2 hc1).2]; exact ⟨(H.out.set8 (col + chw)).drew, ((Fr.refl c w).setCell (.inl ⟨rfl, by simp⟩) _).drew⟩
  case rest =>
    obtain ⟨h, hF⟩ := hcut
    have H1 := Lib.hid h
    have HF1 := Lib.hid hF
    have HG1 := HG
    have bc := h.byte HB.out
    clear c2 c5 c6 c7 c8 c9 c10 fs H HG hF hcc HLC
    obtain ⟨ok, c0, c1, c2, c3, c4, c5, c6, c7, c8, c9, c10, fs, buf, len, r0, r1, r2, fr⟩ := h
    clear c0 c1 c3 c4 c7 c8 buf len r0 r1 r2 fr
    go_wp2
    go_region
    go_upto_block 0 with fail
    go_cut [] (fun wx => Raw wx c (cur.set 0 (.int .u8 128)) (.iface 150 (.pointer (some c.ea))) (-1) 0 0 (lineOf ch line) (colOf ch col chw) 128 chw c.xn ∧ Fr c w wx)
    case first =>
      go_wp2_with fail
      go_loopg [] 1 (fun g wr => (g = 1 ∧ Raw wr c cur .nilIface (-1) r r (lineOf ch line) (colOf ch col chw) 128 chw c.xn ∧ Fr c w wr) ∨ (g = 0 ∧ Raw wr c (cur.set 0 (.int .u8 128)) (.iface 150 (.pointer (some c.ea))) (-1) 0 0 (lineOf ch line) (colOf ch col chw) 128 chw c.xn ∧ Fr c w wr))
      case atStart => exact .inl ⟨rfl, (H1.out.set9 _).drew, (HF1.out.setCell (.inl ⟨rfl, by simp⟩) _).drew⟩
      case round =>
        rcases hrel with ⟨rfl, hrel⟩ | ⟨rfl, hrel⟩
        · obtain ⟨h, hF⟩ := hrel
          have G := HG1.out.fr h.ok hF
          have H' := Lib.hid h
          have HF := Lib.hid hF
          clear c2 c5 c6 c9 c10 fs bc H1 HF1 hF
          obtain ⟨ok, c0, c1, c2, c3, c4, c5, c6, c7, c8, c9, c10, fs, buf, len, r0, r1, r2, fr⟩ := h
          clear c0 c1 c4 c7 c8 c9 buf len r0 r1 r2 fr
          go_wp2_with fail
          go_quiet ((go_at_call 82; exact Calls.quiet_of_same (full_no _ _ _)))
          go_wp2_with (go_at_call 83; refine (fill_eof_stop c cur r _ _ _ _ _ (by exact G.fr H'.out.ok ((Fr.refl _ _).drewN _)) hr hpos (H'.out.drewN _)).mono ?_; rintro e' w' ⟨rfl, hR, hF⟩)
          go_roundg 0
          case measure => omega
          case rel => exact .inr ⟨rfl, hR, (HF.out.drewN _).trans hF⟩
        · obtain ⟨h, hF⟩ := hrel
          have H' := Lib.hid h
          have HF := Lib.hid hF
          clear c2 c5 c6 c9 c10 fs bc H1 HF1 hF
          obtain ⟨ok, c0, c1, c2, c3, c4, c5, c6, c7, c8, c9, c10, fs, buf, len, r0, r1, r2, fr⟩ := h
          clear c0 c1 c4 c7 c8 c9 buf len r0 r1 r2 fr
          go_wp2_with fail
          go_quiet ((go_at_call 82; exact Calls.quiet_of_same (full_no _ _ _)))
          go_wp2
          go_meet
          case rel => exact ⟨H'.out.drewN _, HF.out.drewN _⟩
    case rest =>
      obtain ⟨h, hF⟩ := hcut
      have H' := Lib.hid h
      have HF := Lib.hid hF
      have G := HG1.out.fr h.ok hF
      have ge := G.eof
      have hne := fun w => neq_same c.ea w
      clear c2 c5 c6 c9 c10 fs bc H1 HF1 hF G
      obtain ⟨ok, c0, c1, c2, c3, c4, c5, c6, c7, c8, c9, c10, fs, buf, len, r0, r1, r2, fr⟩ := h
      clear c0 c1 c2 c4 c7 c8 buf len r0 r1 r2 fr
      go_wp2
      go_quiet (fail)
      go_wp2
      go_quiet (fail)
      go_wp2
      rw [Exit.noGoto_ret]
      refine bodyPost_ret (results_none rfl _ _ _) rfl ⟨rfl, ?_, ?_⟩
      · exact ((H'.out.drewN _).set9 (-1)).set10 0
      · exact ((HF.out.drewN _).setCell (.inl ⟨rfl, by simp⟩) _).setCell (.inl ⟨rfl, by simp⟩) _

set_option maxRecDepth 100000 in
set_option maxHeartbeats 4000000 in
/-- The end, met again. -/
theorem next_end_again (c : Cfg) (cur : List Value) (r line col chw : Nat) (ch : Int) (b : Int) (w : World) 
    (h : Raw w c cur (.iface 150 (.pointer (some c.ea))) b r r line col ch chw c.xn) (hsent : cur[r]? = some (.int .u8 128)) (hG : Glob w c.ea)
    (hr : (r : Int) ≤ 2000) (hline : (line : Int) ≤ 8000) (hcol : (col : Int) ≤ 8000) (hchw : (chw : Int) ≤ 4) :
    Calls Tryd.prog 57 #[.pointer (some ⟨c.sb, 0, none⟩)] w (Filled c w cur (.iface 150 (.pointer (some c.ea))) b r r (lineOf ch line) (colOf ch col chw) (-1) 0 c.xn) := by
  have HG := Lib.hid hG
  have bc := h.byte hsent
  have HB := Lib.hid hsent
  have H := Lib.hid h
  obtain ⟨ok, c0, c1, c2, c3, c4, c5, c6, c7, c8, c9, c10, fs, buf, len, r0, r1, r2, fr⟩ := h
  obtain ⟨o1, o2, o3, o4, o5, o6⟩ := ok
  have hr0 : (0 : Int) ≤ r := by omega
  have hr1 : (r : Int) < 4096 := by omega
  have h4096 : ¬ (4096 = r) := by omega
  have hr2 : (r : Int) ≤ 4096 := by omega
  have e0 := wrap0
  clear c0 c1 c3 c4 buf len r0 r1 r2 fr hG hsent
  have hcc : (ch == 10) = true ∨ (ch == 10) = false := by cases (ch == 10) <;> simp
  have HLC : Hid (((ch == 10) = true → lineOf ch line = line + 1 ∧ colOf ch col chw = 0) ∧ ((ch == 10) = false → lineOf ch line = line ∧ colOf ch col chw = col + chw)) := by
    refine ⟨fun h => ?_, fun h => ?_⟩
    · have : ch = 10 := by simpa using h
      simp [lineOf, colOf, this]
    · have : ¬ ch = 10 := by simpa using h
      simp [lineOf, colOf, this]
  go_enter Tryd.func57, Tryd.ntmps57
  go_step3
  go_wp2
  go_step3
  go_wp2
  go_region
  go_upto_if 18 with fail
  go_cut [] (fun wx => Raw wx c cur (.iface 150 (.pointer (some c.ea))) b r r (lineOf ch line) (colOf ch col chw) ch chw c.xn ∧ Fr c w wx)
  case first =>
    rcases hcc with hc1 | hc1
    · go_wp2
      go_meet
      case rel => rw [(HLC.out.1 hc1).1, (HLC.out.1 hc1).2]; exact ⟨((((H.out.set8 (col + chw)).set7 (line + 1)).set8 0)).drew, (((((Fr.refl c w).setCell (.inl ⟨rfl, by simp⟩) _).setCell (.inl ⟨rfl, by simp⟩) _).setCell (.inl ⟨rfl, by simp⟩) _).drew)⟩
    · go_wp2
      go_meet
      case rel => rw [(HLC.out.2 hc1).1, (HLC.out.2 hc1).2]; exact ⟨(H.out.set8 (col + chw)).drew, ((Fr.refl c w).setCell (.inl ⟨rfl, by simp⟩) _).drew⟩
  case rest =>
    obtain ⟨h, hF⟩ := hcut
    have H1 := Lib.hid h
    have HF1 := Lib.hid hF
    have HG1 := HG
    have bc := h.byte HB.out
    clear c2 c5 c6 c7 c8 c9 c10 fs H HG hF hcc HLC
    obtain ⟨ok, c0, c1, c2, c3, c4, c5, c6, c7, c8, c9, c10, fs, buf, len, r0, r1, r2, fr⟩ := h
    clear c0 c1 c3 c4 c7 c8 buf len r0 r1 r2 fr
    go_wp2
    go_region
    go_upto_block 0 with fail
    go_cut [] (fun wx => Raw wx c cur (.iface 150 (.pointer (some c.ea))) b r r (lineOf ch line) (colOf ch col chw) 128 chw c.xn ∧ Fr c w wx)
    case first =>
      go_wp2_with fail
      go_loopg [] 0 (fun g wr => Raw wr c cur (.iface 150 (.pointer (some c.ea))) b r r (lineOf ch line) (colOf ch col chw) 128 chw c.xn ∧ Fr c w wr)
      case atStart => exact ⟨(H1.out.set9 _).drew, (HF1.out.setCell (.inl ⟨rfl, by simp⟩) _).drew⟩
      case round =>
        obtain ⟨h, hF⟩ := hrel
        have H' := Lib.hid h
        have HF := Lib.hid hF
        clear c2 c5 c6 c9 c10 fs bc H1 HF1 hF
        obtain ⟨ok, c0, c1, c2, c3, c4, c5, c6, c7, c8, c9, c10, fs, buf, len, r0, r1, r2, fr⟩ := h
        clear c0 c1 c4 c7 c8 c9 buf len r0 r1 r2 fr
        go_wp2_with fail
        go_quiet ((go_at_call 82; exact Calls.quiet_of_same (full_no _ _ _)))
        go_wp2
        go_meet
        case rel => exact ⟨H'.out.drewN _, HF.out.drewN _⟩
    case rest =>
      obtain ⟨h, hF⟩ := hcut
      have H' := Lib.hid h
      have HF := Lib.hid hF
      have G := HG1.out.fr h.ok hF
      have ge := G.eof
      have hne := fun w => neq_same c.ea w
      clear c2 c5 c6 c9 c10 fs bc H1 HF1 hF G
      obtain ⟨ok, c0, c1, c2, c3, c4, c5, c6, c7, c8, c9, c10, fs, buf, len, r0, r1, r2, fr⟩ := h
      clear c0 c1 c2 c4 c7 c8 buf len r0 r1 r2 fr
      go_wp2
      go_quiet (fail)
      go_wp2
      go_quiet (fail)
      go_wp2
      rw [Exit.noGoto_ret]
      refine bodyPost_ret (results_none rfl _ _ _) rfl ⟨rfl, ?_, ?_⟩
      · exact ((H'.out.drewN _).set9 (-1)).set10 0
      · exact ((HF.out.drewN _).setCell (.inl ⟨rfl, by simp⟩) _).setCell (.inl ⟨rfl, by simp⟩) _

end Go.Proofs.YtnehkpoggkfikaaDoor
