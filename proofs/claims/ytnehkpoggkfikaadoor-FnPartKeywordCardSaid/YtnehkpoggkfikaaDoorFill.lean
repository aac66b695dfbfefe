/-
  The walks through the buffer's filling: at the first character, and at the text's end, with a segment active or none. Conditions: each law's own.
-/
import Derived.Test.YtnehkpoggkfikaaDoorSrc
import Derived.Deep.RegionHeld3
namespace Go.Proofs.YtnehkpoggkfikaaDoor
open Go.RowKit
set_option linter.unusedVariables false

theorem method_read (a : Addr) (w : World) : Sem.run Tryd.prog (method 269 87 (.pointer (some a)) "Read") w = .ok (142, .pointer (some a)) w := by kernel_rfl
theorem wrap4095 : IntKind.i64.wrap 4095 = 4095 := by decide
theorem copy_none (w : World) (d a : Option Addr) (n c k : Nat) : Sem.run Tryd.prog (Builtin.copy_ #[41, 41] 3 #[.slice d n c, .slice a 0 k]) w = .ok (.int .i64 0) w := by
  have := run_copy_none (P := Tryd.prog) w 41 41 3 5 d a n c 0 k u41 i5 (by simp)
  exact this

/-- What a filling leaves. -/
def Filled (c : Cfg) (w : World) (cur : List Value) (io : Value) (b : Int) (r e line col : Nat) (ch : Int) (chw ri : Nat) (x : Ending) (w' : World) : Prop :=
  x = .returned (.tuple #[]) ∧ Raw w' c cur io b r e line col ch chw ri ∧ Fr c w w'

set_option maxRecDepth 100000 in
set_option maxHeartbeats 2000000 in
/-- fill at the text's end, a segment active from the buffer's head. -/
theorem fill_eof_act (c : Cfg) (cur : List Value) (r line col chw : Nat) (ch : Int) (w : World) (hG : Glob w c.ea) (hr : (r : Int) ≤ 2000)
    (h : Raw w c cur .nilIface 0 r r line col ch chw c.xn) :
    Calls Tryd.prog 83 #[.pointer (some ⟨c.sb, 0, none⟩)] w (Filled c w (cur.set r (.int .u8 128)) (.iface 150 (.pointer (some c.ea))) 0 r r line col ch chw c.xn) := by
  have H := Lib.hid h
  have HG := Lib.hid hG
  obtain ⟨ok, c0, c1, c2, c3, c4, c5, c6, c7, c8, c9, c10, fs, buf, len, r0, r1, r2, fr⟩ := h
  obtain ⟨o1, o2, o3, o4, o5, o6⟩ := ok
  clear c7 c8 c9 c10 c1 hG c0 buf len r0 r1 r2 fr
  have hr0 : (0 : Int) ≤ r := by omega
  go_enter Tryd.func83, Tryd.ntmps83
  go_wp2
  go_region
  go_wp2
  go_loopg [4] 0 (fun g i wr => i = .int .i64 0 ∧ Raw wr c cur .nilIface 0 r r line col ch chw c.xn ∧ Fr c w wr)
  case atStart => exact ⟨rfl, (((H.out.set4 0).set5 r).set6 r).drew, ((((Fr.refl c w).setCell (.inl ⟨rfl, by simp⟩) _).setCell (.inl ⟨rfl, by simp⟩) _).setCell (.inl ⟨rfl, by simp⟩) _).drew⟩
  case round =>
    obtain ⟨rfl, h, hF⟩ := hrel
    have G := HG.out.fr h.ok hF
    have ge := G.eof
    have H' := Lib.hid h
    have HF := Lib.hid hF
    clear c2 c3 c4 c5 c6 fs H HG G hF
    obtain ⟨ok, c0, c1, c2, c3, c4, c5, c6, c7, c8, c9, c10, fs, buf, len, r0, r1, r2, fr⟩ := h
    have hlt : r < cur.length := by omega
    have bc : wr.cell? ⟨c.bb, r, none⟩ = some cur[r] := H'.out.byte (List.getElem?_eq_getElem hlt)
    have bf := H'.out.bfree r
    generalize cur[r] = bv at bc
    clear c7 c8 c9 c10 c1 buf len r2 fr
    go_wp2
    have hm := fun w => method_read ⟨c.rb, 0, none⟩ w
    have e4095 := wrap4095
    have q5 : (r : Int) ≤ 4095 := by omega
    go_region_held3 (fun w' => w'.cell? ⟨c.sb, 0, none⟩ = some (.iface 87 (.pointer (some ⟨c.rb, 0, none⟩))) ∧ w'.cell? ⟨c.sb, 2, none⟩ = some (.slice (some ⟨c.bb, 0, none⟩) 4096 4096) ∧ w'.cell? ⟨c.sb, 6, none⟩ = some (.int .i64 r)) (first | exact ⟨c0, c2, c6⟩ | exact ⟨(World.cell?_setCell_other _ _ _ _ (by simp)).trans c0, (World.cell?_setCell_other _ _ _ _ (by simp)).trans c2, (World.cell?_setCell_other _ _ _ _ (by simp)).trans c6⟩)
      (first | (go_at_call 142; refine (read_eof c.rb c.xn c.xc _ _ _ _ _ _ (by exact r0) (by exact r1) (by exact ge)).mono ?_; rintro e w' ⟨rfl, k, rfl⟩))
    go_wp2
    go_region
    go_wp2
    refine bodyPost_ret (results_none rfl _ _ _) rfl ⟨rfl, ?_, ?_⟩
    · exact ((((H'.out.drewN _).set3 _).set6 _).setBuf _ _).drew
    · exact ((((HF.out.drewN _).setCell (.inl ⟨rfl, by simp⟩) _).setCell (.inl ⟨rfl, by simp⟩) _).setCell (.inr ⟨o1, .inl rfl⟩) _).drew

set_option maxRecDepth 100000 in
set_option maxHeartbeats 2000000 in
/-- fill at the text's end, no segment active. -/
theorem fill_eof_stop (c : Cfg) (cur : List Value) (r line col chw : Nat) (ch : Int) (w : World) (hG : Glob w c.ea) (hr : (r : Int) ≤ 2000) (hpos : (0 : Int) < r)
    (h : Raw w c cur .nilIface (-1) r r line col ch chw c.xn) :
    Calls Tryd.prog 83 #[.pointer (some ⟨c.sb, 0, none⟩)] w (Filled c w (cur.set 0 (.int .u8 128)) (.iface 150 (.pointer (some c.ea))) (-1) 0 0 line col ch chw c.xn) := by
  have H := Lib.hid h
  have HG := Lib.hid hG
  obtain ⟨ok, c0, c1, c2, c3, c4, c5, c6, c7, c8, c9, c10, fs, buf, len, r0, r1, r2, fr⟩ := h
  obtain ⟨o1, o2, o3, o4, o5, o6⟩ := ok
  clear c7 c8 c9 c10 c1 hG c0 buf len r0 r1 r2 fr
  have hr0 : (0 : Int) ≤ r := by omega
  have q5 : (r : Int) ≤ 4096 := by omega
  have q6 : (r == 4096) = false := by simp; omega
  have q7 : ¬ (4096 = r) := by omega
  have hcp := fun w => copy_none w (some ⟨c.bb, 0, none⟩) (some ⟨c.bb, r, none⟩) 4096 4096 (4096 - r)
  go_enter Tryd.func83, Tryd.ntmps83
  go_wp2
  go_region
  go_wp2
  go_loopg [4] 0 (fun g i wr => i = .int .i64 0 ∧ Raw wr c cur .nilIface (-1) 0 0 line col ch chw c.xn ∧ Fr c w wr)
  case atStart => exact ⟨rfl, ((H.out.set5 0).set6 0).drew, (((Fr.refl c w).setCell (.inl ⟨rfl, by simp⟩) _).setCell (.inl ⟨rfl, by simp⟩) _).drew⟩
  case round =>
    obtain ⟨rfl, h, hF⟩ := hrel
    have G := HG.out.fr h.ok hF
    have ge := G.eof
    have H' := Lib.hid h
    have HF := Lib.hid hF
    clear c2 c3 c4 c5 c6 fs H HG G hF
    obtain ⟨ok, c0, c1, c2, c3, c4, c5, c6, c7, c8, c9, c10, fs, buf, len, r0, r1, r2, fr⟩ := h
    have hlt : 0 < cur.length := by omega
    have bc : wr.cell? ⟨c.bb, 0, none⟩ = some cur[0] := H'.out.byte (List.getElem?_eq_getElem hlt)
    have bf := H'.out.bfree 0
    generalize cur[0] = bv at bc
    clear c7 c8 c9 c10 c1 buf len r2 fr
    go_wp2
    have hm := fun w => method_read ⟨c.rb, 0, none⟩ w
    have e4095 := wrap4095
    have q5 : (0 : Int) ≤ 4095 := by omega
    go_region_held3 (fun w' => w'.cell? ⟨c.sb, 0, none⟩ = some (.iface 87 (.pointer (some ⟨c.rb, 0, none⟩))) ∧ w'.cell? ⟨c.sb, 2, none⟩ = some (.slice (some ⟨c.bb, 0, none⟩) 4096 4096) ∧ w'.cell? ⟨c.sb, 6, none⟩ = some (.int .i64 0)) (first | exact ⟨c0, c2, c6⟩ | exact ⟨(World.cell?_setCell_other _ _ _ _ (by simp)).trans c0, (World.cell?_setCell_other _ _ _ _ (by simp)).trans c2, (World.cell?_setCell_other _ _ _ _ (by simp)).trans c6⟩)
      (first | (go_at_call 142; refine (read_eof c.rb c.xn c.xc _ _ _ _ _ _ (by exact r0) (by exact r1) (by exact ge)).mono ?_; rintro e w' ⟨rfl, k, rfl⟩))
    go_wp2
    go_region
    go_wp2
    refine bodyPost_ret (results_none rfl _ _ _) rfl ⟨rfl, ?_, ?_⟩
    · exact ((((H'.out.drewN _).set3 _).set6 _).setBuf _ _).drew
    · exact ((((HF.out.drewN _).setCell (.inl ⟨rfl, by simp⟩) _).setCell (.inl ⟨rfl, by simp⟩) _).setCell (.inr ⟨o1, .inl rfl⟩) _).drew

set_option maxRecDepth 100000 in
set_option maxHeartbeats 2000000 in
/-- fill at the first character: the whole text comes into the buffer. -/
theorem fill_first (c : Cfg) (cur cs : List Value) (line col chw : Nat) (ch : Int) (w : World) (hr : (c.xn : Int) ≤ 2000) (hxc : (c.xn : Int) ≤ c.xc) (hpos : 0 < c.xn) (hcs : cs.length = c.xn) (hxr : c.xb ≠ c.rb) (hxs : c.xb ≠ c.sb)
    (hx : ∀ j v, cs[j]? = some v → w.cell? ⟨c.xb, j, none⟩ = some v) (hone : ∀ v ∈ cs, v.oneCell' = true)
    (h : Raw w c cur .nilIface (-1) 0 0 line col ch chw 0) :
    Calls Tryd.prog 83 #[.pointer (some ⟨c.sb, 0, none⟩)] w (Filled c w ((cs ++ cur.drop c.xn).set c.xn (.int .u8 128)) .nilIface (-1) 0 c.xn line col ch chw c.xn) := by
  have H := Lib.hid h
  have HX := Lib.hid hx
  have HO := Lib.hid hone
  obtain ⟨ok, c0, c1, c2, c3, c4, c5, c6, c7, c8, c9, c10, fs, buf, len, r0, r1, r2, fr⟩ := h
  obtain ⟨o1, o2, o3, o4, o5, o6⟩ := ok
  clear c7 c8 c9 c10 c1 c0 buf len r0 r1 r2 fr hx hone
  go_enter Tryd.func83, Tryd.ntmps83
  go_wp2
  go_region
  go_wp2
  go_loopg [4] 0 (fun g i wr => i = .int .i64 0 ∧ Raw wr c cur .nilIface (-1) 0 0 line col ch chw 0 ∧ Fr c w wr ∧ Hid (∀ j v, cs[j]? = some v → wr.cell? ⟨c.xb, j, none⟩ = some v))
  case atStart => exact ⟨rfl, ((H.out.set5 0).set6 0).drew, (((Fr.refl c w).setCell (.inl ⟨rfl, by simp⟩) _).setCell (.inl ⟨rfl, by simp⟩) _).drew, fun j v hj => (World.cell?_setCell_other _ _ _ _ (fun e => hxs (congrArg Addr.block e).symm)).trans ((World.cell?_setCell_other _ _ _ _ (fun e => hxs (congrArg Addr.block e).symm)).trans (HX.out j v hj))⟩
  case round =>
    obtain ⟨rfl, h, hF, hX⟩ := hrel
    have H' := Lib.hid h
    have HF := Lib.hid hF
    clear c2 c3 c4 c5 c6 fs H hF
    obtain ⟨ok, c0, c1, c2, c3, c4, c5, c6, c7, c8, c9, c10, fs, buf, len, r0, r1, r2, fr⟩ := h
    have BUF := Lib.hid buf
    have LEN := Lib.hid len
    have R2 := Lib.hid r2
    have FR := Lib.hid fr
    clear c7 c8 c9 c10 c1 buf len r2 fr
    go_wp2
    have hm := fun w => method_read ⟨c.rb, 0, none⟩ w
    have e4095 := wrap4095
    have hn1 : (0 : Int) < c.xn := by omega
    have hn2 : (c.xn : Int) < 4096 := by omega
    have hn3 : (c.xn : Int) < 4000 := by omega
    have hl2 : (cs ++ cur.drop c.xn).length = 4096 := by have := LEN.out; simp; omega
    have HL2 := Lib.hid hl2
    clear hl2
    go_region_held3 (fun w' => w'.cell? ⟨c.sb, 0, none⟩ = some (.iface 87 (.pointer (some ⟨c.rb, 0, none⟩))) ∧ w'.cell? ⟨c.sb, 2, none⟩ = some (.slice (some ⟨c.bb, 0, none⟩) 4096 4096) ∧ w'.cell? ⟨c.sb, 6, none⟩ = some (.int .i64 0)) (first | exact ⟨c0, c2, c6⟩ | exact ⟨d0, d2, d6⟩ | exact ⟨(World.cell?_setCell_other _ _ _ _ n0).trans d0, (World.cell?_setCell_other _ _ _ _ n2).trans d2, (World.cell?_setCell_other _ _ _ _ n6).trans d6⟩)
      (first | (go_at_call 142; refine (read_all c.rb c.bb c.xb c.xn c.xc _ cur cs hxc hn3 hpos hcs (by exact LEN.out) (Ne.symm o3) hxr (by exact r0) (by exact r1) (by exact R2.out) (by exact FR.out) (by exact BUF.out) (by exact hX.out) HO.out).mono ?_; rintro e w' ⟨rfl, hd⟩; have hR := H'.out.drew.readDone HL2.out hd; have d0 := hR.c0; have d2 := hR.c2; have d6 := hR.c6; have d3 := hR.c3; have df := hR.fs; have n0 : (⟨c.sb, 3, none⟩ : Addr) ≠ ⟨c.sb, 0, none⟩ := (by simp); have n2 : (⟨c.sb, 3, none⟩ : Addr) ≠ ⟨c.sb, 2, none⟩ := (by simp); have n6 : (⟨c.sb, 3, none⟩ : Addr) ≠ ⟨c.sb, 6, none⟩ := (by simp)))
    have hlt : c.xn < (cs ++ cur.drop c.xn).length := by have := HL2.out; omega
    have bc : w'.cell? ⟨c.bb, c.xn, none⟩ = some (cs ++ cur.drop c.xn)[c.xn] := hR.byte (List.getElem?_eq_getElem hlt)
    have bf := hR.bfree c.xn
    generalize (cs ++ cur.drop c.xn)[c.xn] = bv at bc
    clear hlt
    go_wp2
    go_region
    go_wp2
    refine bodyPost_ret (results_none rfl _ _ _) rfl ⟨rfl, ?_, ?_⟩
    · exact (((hR.set3 _).set6 _).setBuf _ _).drew
    · exact (((((HF.out.drew).two ⟨o1, o2, o3, o4, o5, o6⟩ hd.two).setCell (.inl ⟨rfl, by simp⟩) _).setCell (.inl ⟨rfl, by simp⟩) _).setCell (.inr ⟨o1, .inl rfl⟩) _).drew

end Go.Proofs.YtnehkpoggkfikaaDoor
