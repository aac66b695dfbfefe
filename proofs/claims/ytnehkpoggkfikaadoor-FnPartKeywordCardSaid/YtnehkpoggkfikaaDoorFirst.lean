/-
  The walk through the scanner's step (nextch) at the first character: the buffer is filled. Conditions: the law's own.
-/
import Derived.Test.YtnehkpoggkfikaaDoorEnd
namespace Go.Proofs.YtnehkpoggkfikaaDoor
open Go.RowKit
set_option linter.unusedVariables false

set_option maxRecDepth 100000 in
set_option maxHeartbeats 4000000 in
/-- The first character. -/
theorem next_first (c : Cfg) (cur : List Value) (x : Nat) (t : List UInt8) (w : World) (hx : okR x)
    (h : Raw w c cur .nilIface (-1) 0 0 0 0 32 0 0) (hsent : cur[0]? = some (.int .u8 128)) (hG : Glob w c.ea)
    (hn : c.xn = (enc x ++ t).length) (hmax : (c.xn : Int) ≤ 2000) (hxc : (c.xn : Int) ≤ c.xc) (hxr : c.xb ≠ c.rb) (hxs : c.xb ≠ c.sb) (hxb : c.xb ≠ c.bb)
    (hsrc : ∀ j v, (bytesV (enc x ++ t))[j]? = some v → w.cell? ⟨c.xb, j, none⟩ = some v) :
    Calls Tryd.prog 57 #[.pointer (some ⟨c.sb, 0, none⟩)] w (Filled c w ((bytesV (enc x ++ t) ++ cur.drop c.xn).set c.xn (.int .u8 128)) .nilIface (-1) (enc x).length c.xn 0 0 x (enc x).length c.xn) := by
  obtain ⟨b0, t0, hb0, -, -, hft⟩ := enc_first x hx
  have hlt0 : b0.toNat < 256 := b0.toNat_lt
  have hpos := enc_len_pos x
  have hle4 := enc_len_le x
  have hxpos : 0 < c.xn := by rw [hn]; simp; omega
  have hlb : (enc x).length ≤ c.xn := by rw [hn]; simp
  have hbl : (bytesV (enc x ++ t)).length = c.xn := by rw [hn]; simp [bytesV]
  have hcellT : ∀ j, (hj : j < (enc x ++ t).length) → ((bytesV (enc x ++ t) ++ cur.drop c.xn).set c.xn (.int .u8 128))[j]? = some (.int .u8 (((enc x ++ t)[j]).toNat : Int)) := fun j hj => by
    rw [List.getElem?_set_ne (by omega), List.getElem?_append_left (by omega)]
    unfold bytesV; rw [List.getElem?_map, List.getElem?_eq_getElem hj]; rfl
  have hcell : ((bytesV (enc x ++ t) ++ cur.drop c.xn).set c.xn (.int .u8 128))[0]? = some (.int .u8 (b0.toNat : Int)) := by
    have := hcellT 0 (by rw [hb0]; simp)
    simpa [hb0] using this
  have hft7 := and7 ⟨Lib.firstT b0.toNat, by rcases Lib.firstT_cases b0.toNat with h | h | h | h | h | h | h | h | h <;> rw [h] <;> omega⟩
  simp only at hft7
  have hk8 : Lib.firstT b0.toNat % 8 < 8 := Nat.mod_lt _ (by omega)
  have hkn : Lib.firstT b0.toNat % 8 ≤ c.xn := by omega
  have HX := Lib.hid hx
  have HN := Lib.hid hn
  have HG := Lib.hid hG
  have HS := Lib.hid hsrc
  have HBL := Lib.hid hbl
  have HCT := Lib.hid hcellT
  have HB := Lib.hid hcell
  have bc := h.byte hsent
  have HSENT := Lib.hid hsent
  have hone : ∀ v ∈ bytesV (enc x ++ t), v.oneCell' = true := fun v hv => by
    obtain ⟨b, -, rfl⟩ := List.mem_map.1 hv
    rfl
  have HO := Lib.hid hone
  generalize hx0 : b0.toNat = x0 at *
  generalize hrow : (bytesV (enc x ++ t) ++ cur.drop c.xn).set c.xn (.int .u8 128) = row at *
  have HROW := Lib.hid hrow
  have H := Lib.hid h
  obtain ⟨ok, c0, c1, c2, c3, c4, c5, c6, c7, c8, c9, c10, fs, buf, len, r0, r1, r2, fr⟩ := h
  obtain ⟨o1, o2, o3, o4, o5, o6⟩ := ok
  have hx256 : (x0 : Int) < 256 := by omega
  clear c0 c1 c3 c4 buf len r0 r1 r2 fr hx hG hcell hx0 hb0 hlt0 hft hn hsrc hbl hcellT hsent hone hrow
  have hw : IntKind.i64.wrap (c.xn : Int) = (c.xn : Int) := IntWalk.i64_in _ (by omega)
  have hd4 : decide ((c.xn : Int) < 4) = true ∨ decide ((c.xn : Int) < 4) = false := by cases decide ((c.xn : Int) < 4) <;> simp
  have HW := Lib.hid hw
  have HD4 := Lib.hid hd4
  have e0 := wrap0
  clear hw hd4
  go_enter Tryd.func57, Tryd.ntmps57
  go_step3
  go_wp2
  go_step3
  go_wp2
  go_region
  go_wp2
  go_region
  go_upto_block 0 with fail
  go_cut [] (fun wx => Raw wx c row .nilIface (-1) 0 c.xn 0 0 128 0 c.xn ∧ Fr c w wx)
  case first =>
    go_wp2_with fail
    go_loopg [] 1 (fun g wr => (g = 1 ∧ Raw wr c cur .nilIface (-1) 0 0 0 0 128 0 0 ∧ Fr c w wr) ∨ (g = 0 ∧ Raw wr c row .nilIface (-1) 0 c.xn 0 0 128 0 c.xn ∧ Fr c w wr))
    case atStart => exact .inl ⟨rfl, ((((H.out.set8 0).drew).set9 _)).drew, ((((Fr.refl c w).setCell (.inl ⟨rfl, by simp⟩) _).drew).setCell (.inl ⟨rfl, by simp⟩) _).drew⟩
    case round =>
      rcases hrel with ⟨rfl, hrel⟩ | ⟨rfl, hrel⟩
      · obtain ⟨h, hF⟩ := hrel
        have G := HG.out.fr h.ok hF
        have H' := Lib.hid h
        have HF := Lib.hid hF
        have HSX : Hid (∀ j v, (bytesV (enc x ++ t))[j]? = some v → wr.cell? ⟨c.xb, j, none⟩ = some v) := fun j v hj => by
          have := HS.out j v hj
          rw [← this]
          exact World.cell?_of_block (w := w) (hF.block c.xb (cell_lt this) hxs hxb hxr)
        clear c2 c5 c6 c7 c8 c9 c10 fs bc H hF
        obtain ⟨ok, c0, c1, c2, c3, c4, c5, c6, c7, c8, c9, c10, fs, buf, len, r0, r1, r2, fr⟩ := h
        clear c0 c1 c4 c7 c8 c9 buf len r0 r1 r2 fr
        go_wp2_with fail
        go_quiet ((go_at_call 82; exact Calls.quiet_of_same (full_no _ _ _)))
        go_wp2_with (go_at_call 83; refine (fill_first c cur (bytesV (enc x ++ t)) _ _ _ _ _ hmax hxc hxpos HBL.out hxr hxs (by exact HSX.out) HO.out (H'.out.drewN _)).mono ?_; rintro e' w' ⟨rfl, hR, hF⟩)
        go_roundg 0
        case measure => omega
        case rel => exact .inr ⟨rfl, by rw [← HROW.out]; exact hR, (HF.out.drewN _).trans hF⟩
      · obtain ⟨h, hF⟩ := hrel
        have G := HG.out.fr h.ok hF
        have H' := Lib.hid h
        have HF := Lib.hid hF
        have gt := G.tabs.1 x0 (by omega)
        clear c2 c5 c6 c7 c8 c9 c10 fs bc H hF G
        have bc := H'.out.byte HB.out
        obtain ⟨ok, c0, c1, c2, c3, c4, c5, c6, c7, c8, c9, c10, fs, buf, len, r0, r1, r2, fr⟩ := h
        clear c0 c1 c3 c4 c7 c8 c9 buf len r0 r1 r2 fr
        have hw := HW.out
        have hx4 : (c.xn : Int) ≤ 4096 := by omega
        rcases HD4.out with hd4 | hd4
        · go_wp2_with fail
          go_quiet ((go_at_call 82; refine Calls.quiet_of_same (full_yes c.bb 0 c.xn 4096 x0 _ _ _ rfl gt bc hx256 hft7 hk8 (by omega) (by omega))))
          go_wp2
          go_meet
          case rel => exact ⟨H'.out.drewN _, HF.out.drewN _⟩
        · go_wp2_with fail
          go_quiet (fail)
          go_wp2
          go_meet
          case rel => exact ⟨H'.out.drewN _, HF.out.drewN _⟩
  case rest =>
    obtain ⟨h, hF⟩ := hcut
    have H' := Lib.hid h
    have HF := Lib.hid hF
    have G := HG.out.fr h.ok hF
    have GT := Lib.hid G.tabs
    have HCELLS := Lib.hid (fun j (hj : j < (enc x ++ t).length) => H'.out.byte (i := 0 + j) (by rw [Nat.zero_add]; exact HCT.out j hj))
    clear c2 c5 c6 c7 c8 c9 c10 fs bc H hF G
    obtain ⟨ok, c0, c1, c2, c3, c4, c5, c6, c7, c8, c9, c10, fs, buf, len, r0, r1, r2, fr⟩ := h
    clear c0 c1 c3 c4 c7 c8 buf len r0 r1 r2 fr
    have hre2 : (c.xn == 0) = false := by simp; omega
    have hre4 : (0 == c.xn) = false := by simp; omega
    have hre5 : (0 : Int) ≤ (c.xn : Int) := by omega
    have he4 : (c.xn : Int) ≤ 4096 := by omega
    have n92 : (⟨c.sb, 9, none⟩ : Addr) ≠ ⟨c.sb, 2, none⟩ := (by simp)
    have n95 : (⟨c.sb, 9, none⟩ : Addr) ≠ ⟨c.sb, 5, none⟩ := (by simp)
    have n96 : (⟨c.sb, 9, none⟩ : Addr) ≠ ⟨c.sb, 6, none⟩ := (by simp)
    have n102 : (⟨c.sb, 10, none⟩ : Addr) ≠ ⟨c.sb, 2, none⟩ := (by simp)
    have n105 : (⟨c.sb, 10, none⟩ : Addr) ≠ ⟨c.sb, 5, none⟩ := (by simp)
    have n106 : (⟨c.sb, 10, none⟩ : Addr) ≠ ⟨c.sb, 6, none⟩ := (by simp)
    go_wp2
    go_quiet (fail)
    go_wp2
    go_region_held3 (fun w' => w'.cell? ⟨c.sb, 2, none⟩ = some (.slice (some ⟨c.bb, 0, none⟩) 4096 4096) ∧ w'.cell? ⟨c.sb, 5, none⟩ = some (.int .i64 0) ∧ w'.cell? ⟨c.sb, 6, none⟩ = some (.int .i64 c.xn)) (first | exact ⟨c2, c5, c6⟩ | exact ⟨d2, d5, d6⟩ | exact ⟨(World.cell?_setCell_other _ _ _ _ n92).trans d2, (World.cell?_setCell_other _ _ _ _ n95).trans d5, (World.cell?_setCell_other _ _ _ _ n96).trans d6⟩ | exact ⟨(World.cell?_setCell_other _ _ _ _ n102).trans ((World.cell?_setCell_other _ _ _ _ n92).trans d2), (World.cell?_setCell_other _ _ _ _ n105).trans ((World.cell?_setCell_other _ _ _ _ n95).trans d5), (World.cell?_setCell_other _ _ _ _ n106).trans ((World.cell?_setCell_other _ _ _ _ n96).trans d6)⟩ | exact ⟨(World.cell?_setCell_other _ _ _ _ n92).trans ((World.cell?_setCell_other _ _ _ _ n102).trans d2), (World.cell?_setCell_other _ _ _ _ n95).trans ((World.cell?_setCell_other _ _ _ _ n105).trans d5), (World.cell?_setCell_other _ _ _ _ n96).trans ((World.cell?_setCell_other _ _ _ _ n106).trans d6)⟩ | exact ⟨(World.cell?_setCell_other _ _ _ _ n102).trans d2, (World.cell?_setCell_other _ _ _ _ n105).trans d5, (World.cell?_setCell_other _ _ _ _ n106).trans d6⟩)
      (first | (go_at_call 84; refine (decode_calls x HX.out t c.bb 0 c.xn 4096 _ HN.out (by exact GT.out) (by exact HCELLS.out)).mono ?_; rintro e' w' ⟨rfl, hb⟩; have hR := Raw.below (H'.out.drewN _) hb; have hF := (HF.out.drewN _).below (cell_lt (H'.out.drewN _).c0) hb; have d2 := hR.c2; have d5 := hR.c5; have d6 := hR.c6; have d9 := hR.c9; have d10 := hR.c10; have df := hR.fs))
    have hL : ((enc x).length : Int) ≤ 4 := by omega
    have x1 : ((x : Int) == 65533) = false := by have := HX.out.2.2.1; simp; omega
    have x2 : ((x : Int) == 65279) = false := by have := HX.out.2.1; simp; omega
    go_wp2
    go_region
    go_wp2
    rw [Exit.noGoto_normal]
    refine bodyPost_end (results_none rfl _ _ _) rfl ⟨rfl, ?_, ?_⟩
    · exact (((hR.set9 _).set10 _).set5 (enc x).length).drew
    · exact (((hF.setCell (.inl ⟨rfl, by simp⟩) _).setCell (.inl ⟨rfl, by simp⟩) _).setCell (.inl ⟨rfl, by simp⟩) _).drew
end Go.Proofs.YtnehkpoggkfikaaDoor
