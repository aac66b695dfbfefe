/-
  The walks through the scanner's step to the next character (nextch), and FullRune. Conditions: each law's own.
-/
import Derived.Test.YtnehkpoggkfikaaDoorFill
import Derived.Test.YtnehkpoggkfikaaDoorShelf
import Derived.Deep.DeepCutAuto
import Derived.Deep.CutBlock
namespace Go.Proofs.YtnehkpoggkfikaaDoor
open Go.RowKit
set_option linter.unusedVariables false

theorem and7 : ∀ x : Fin 256, bits BinOp.and .u8 ((x.val : Nat) : Int) 7 = ((x.val % 8 : Nat) : Int) := by decide +kernel
theorem full_no (p : Option Addr) (cap : Nat) (w : World) :
    Calls Tryd.prog 82 #[.slice p 0 cap] w fun e w' => e = .returned (.bool false) ∧ w' = w := by
  go_enter Tryd.func82, Tryd.ntmps82
  go_wp2
  go_ret
  exact ⟨rfl, rfl⟩
theorem full_yes (b off n cap b0 x k : Nat) (w : World) (hx : Hid (x = Lib.firstT b0)) (hT : w.cell? ⟨5, b0, none⟩ = some (.int .u8 x)) (h0 : w.cell? ⟨b, off, none⟩ = some (.int .u8 b0)) (hb0 : (b0 : Int) < 256)
    (hk : bits BinOp.and .u8 (x : Int) 7 = (k : Int)) (hk8 : k < 8) (hn : (0 : Int) < n) (hle : (k : Int) ≤ n) :
    Calls Tryd.prog 82 #[.slice (some ⟨b, off, none⟩) n cap] w fun e w' => e = .returned (.bool true) ∧ w' = w := by
  have hn0 : ((n : Int) == 0) = false := by simp; omega
  go_enter Tryd.func82, Tryd.ntmps82
  go_wp2
  go_ret
  exact ⟨rfl, rfl⟩

/-- Where the line and the column stand behind a character. -/
def lineOf (ch : Int) (line : Nat) : Nat := if ch = 10 then line + 1 else line
def colOf (ch : Int) (col chw : Nat) : Nat := if ch = 10 then 0 else col + chw

set_option maxRecDepth 100000 in
set_option maxHeartbeats 2000000 in
/-- An ASCII character, no NUL. -/
theorem next_ascii (c : Cfg) (cur : List Value) (io : Value) (b : Int) (r e line col chw x : Nat) (ch : Int) (w : World) (ri : Nat) (h : Raw w c cur io b r e line col ch chw ri)
    (hb : cur[r]? = some (.int .u8 x)) (hx : (x : Int) < 128) (hx0 : 0 < x) (hr : (r : Int) ≤ 3000) (hline : (line : Int) ≤ 8000) (hcol : (col : Int) ≤ 8000) (hchw : (chw : Int) ≤ 4) :
    Calls Tryd.prog 57 #[.pointer (some ⟨c.sb, 0, none⟩)] w (Filled c w cur io b (r + 1) e (lineOf ch line) (colOf ch col chw) x 1 ri) := by
  have H := Lib.hid h
  have bc := h.byte hb
  obtain ⟨ok, c0, c1, c2, c3, c4, c5, c6, c7, c8, c9, c10, fs, buf, len, r0, r1, r2, fr⟩ := h
  obtain ⟨o1, o2, o3, o4, o5, o6⟩ := ok
  clear c0 c1 c3 c4 c6 buf len r0 r1 r2 fr hb
  have hx0' : ((x : Int) == 0) = false := by simp; omega
  have hr0 : (0 : Int) ≤ r := by omega
  by_cases hch : ch = 10
  · have hc1 : (ch == 10) = true := by simp [hch]
    have HC := Lib.hid hch; clear hch
    go_enter Tryd.func57, Tryd.ntmps57
    go_step3
    go_wp2
    go_step3
    go_wp2
    go_region
    go_wp2
    go_region
    go_wp2
    rw [Exit.noGoto_ret]
    refine bodyPost_ret (results_none rfl _ _ _) rfl ⟨rfl, ?_, ?_⟩
    · rw [lineOf, colOf, if_pos HC.out, if_pos HC.out]
      exact (((((((H.out.set8 (col + chw)).set7 (line + 1)).set8 0).set9 _).set5 (r + 1)).set10 1).drew).drew
    · exact (((((((((Fr.refl c w).setCell (.inl ⟨rfl, by simp⟩) _).setCell (.inl ⟨rfl, by simp⟩) _).setCell (.inl ⟨rfl, by simp⟩) _).setCell (.inl ⟨rfl, by simp⟩) _).setCell (.inl ⟨rfl, by simp⟩) _).setCell (.inl ⟨rfl, by simp⟩) _).drew).drew)
  · have hc1 : (ch == 10) = false := by simp [hch]
    have HC := Lib.hid hch; clear hch
    go_enter Tryd.func57, Tryd.ntmps57
    go_step3
    go_wp2
    go_step3
    go_wp2
    go_region
    go_wp2
    go_region
    go_wp2
    rw [Exit.noGoto_ret]
    refine bodyPost_ret (results_none rfl _ _ _) rfl ⟨rfl, ?_, ?_⟩
    · rw [lineOf, colOf, if_neg HC.out, if_neg HC.out]
      exact (((((H.out.set8 (col + chw)).set9 _).set5 (r + 1)).set10 1).drew).drew
    · exact (((((((Fr.refl c w).setCell (.inl ⟨rfl, by simp⟩) _).setCell (.inl ⟨rfl, by simp⟩) _).setCell (.inl ⟨rfl, by simp⟩) _).setCell (.inl ⟨rfl, by simp⟩) _).drew).drew)

/-- Bytes as cells. -/
def bytesV (l : List UInt8) : List Value := l.map fun x => .int .u8 (x.toNat : Int)
/-- From place r on the buffer's cells are these bytes. -/
def BufAt (cur : List Value) (r : Nat) (l : List UInt8) : Prop := ∀ j, (h : j < l.length) → cur[r + j]? = some (.int .u8 ((l[j]).toNat : Int))

/-- The library's decoder at the bytes of a character. -/
theorem decode_calls (x : Nat) (hx : okR x) (t : List UInt8) (b off n cap : Nat) (w : World) (hn : n = (enc x ++ t).length) (hT : Lib.Utf8Tabs 5 6 w)
    (hc : ∀ j, (h : j < (enc x ++ t).length) → w.cell? ⟨b, off + j, none⟩ = some (.int .u8 (((enc x ++ t)[j]).toNat : Int))) :
    Calls Tryd.prog 84 #[.slice (some ⟨b, off, none⟩) n cap] w fun e w' => e = .returned (.tuple #[.int .i32 x, .int .i64 (enc x).length]) ∧ Below w.heap.size w w' := by
  have hsz : (⟨(enc x ++ t).toArray⟩ : ByteArray).size = n := by rw [hn]; rfl
  have hd : Lib.decodeGo ⟨(enc x ++ t).toArray⟩ = (x, (enc x).length) := by
    have h0 : (⟨(enc x ++ t).toArray⟩ : ByteArray).size ≠ 0 := by
      rw [hsz, hn]; have := enc_len_pos x; simp only [List.length_append]; omega
    unfold Lib.decodeGo
    rw [if_neg h0]
    exact dec_enc x hx t
  have h := Tryd.utf8_DecodeRune ⟨(enc x ++ t).toArray⟩ b off cap w hT (fun j hj => by
    have hj' : j < (enc x ++ t).length := by rw [hsz, hn] at hj; exact hj
    rw [hc j hj']
    have : (⟨(enc x ++ t).toArray⟩ : ByteArray).get! j = (enc x ++ t)[j] := by
      show (enc x ++ t).toArray[j]! = _
      show (enc x ++ t).toArray[j]! = _
      rw [getElem!_pos (enc x ++ t).toArray j (by simpa using hj')]; simp
    rw [this])
  rw [hsz, hd] at h
  exact h

set_option maxRecDepth 100000 in
set_option maxHeartbeats 4000000 in
/-- A character beyond ASCII. -/
theorem next_multi (c : Cfg) (cur : List Value) (io : Value) (b : Int) (r e line col chw x : Nat) (t : List UInt8) (ch : Int) (w : World) (ri : Nat) (hx : okR x) (hx128 : 128 ≤ x)
    (h : Raw w c cur io b r e line col ch chw ri) (he : e = r + (enc x ++ t).length) (hcur : BufAt cur r (enc x ++ t)) (hG : Glob w c.ea)
    (hr : (e : Int) ≤ 3000) (hline : (line : Int) ≤ 8000) (hcol : (col : Int) ≤ 8000) (hchw : (chw : Int) ≤ 4) :
    Calls Tryd.prog 57 #[.pointer (some ⟨c.sb, 0, none⟩)] w (Filled c w cur io b (r + (enc x).length) e (lineOf ch line) (colOf ch col chw) x (enc x).length ri) := by
  obtain ⟨b0, t0, hb0, -, hge, hft⟩ := enc_first x hx
  have hge := hge hx128
  have hlt0 : b0.toNat < 256 := b0.toNat_lt
  have hcell : cur[r]? = some (.int .u8 (b0.toNat : Int)) := by
    have := hcur 0 (by rw [hb0]; simp)
    simpa [hb0] using this
  have hlen : (enc x ++ t).length = e - r := by omega
  have hpos := enc_len_pos x
  have hle4 := enc_len_le x
  have hlb : (enc x).length ≤ e - r := by rw [← hlen]; simp
  have hre : (r : Int) < e := by omega
  have hft7 := and7 ⟨Lib.firstT b0.toNat, by rcases Lib.firstT_cases b0.toNat with h | h | h | h | h | h | h | h | h <;> rw [h] <;> omega⟩
  simp only at hft7
  have hk8 : Lib.firstT b0.toNat % 8 < 8 := Nat.mod_lt _ (by omega)
  have hkn : Lib.firstT b0.toNat % 8 ≤ e - r := by omega
  have HX := Lib.hid hx
  have HE := Lib.hid he
  have HL := Lib.hid hlen
  have HCUR := Lib.hid hcur
  have HG := Lib.hid hG
  have bc := h.byte hcell
  have HB := Lib.hid hcell
  generalize hx0 : b0.toNat = x0 at *
  have H := Lib.hid h
  obtain ⟨ok, c0, c1, c2, c3, c4, c5, c6, c7, c8, c9, c10, fs, buf, len, r0, r1, r2, fr⟩ := h
  obtain ⟨o1, o2, o3, o4, o5, o6⟩ := ok
  have hx128' : ¬ (x0 : Int) < 128 := by omega
  have hx256 : (x0 : Int) < 256 := by omega
  have hr0 : (0 : Int) ≤ r := by omega
  have hr1 : (r : Int) < 4096 := by omega
  clear c0 c1 c3 c4 buf len r0 r1 r2 fr hcur hx he hG hcell hx0 hb0 hx128 hge hlt0 hft
  have hw : IntKind.i64.wrap ((e : Int) - (r : Int)) = (e : Int) - (r : Int) := IntWalk.i64_in _ (by omega)
  have hd4 : decide ((e : Int) - (r : Int) < 4) = true ∨ decide ((e : Int) - (r : Int) < 4) = false := by cases decide ((e : Int) - (r : Int) < 4) <;> simp
  have HW := Lib.hid hw
  have HD4 := Lib.hid hd4
  clear hw hd4
  have hcc : (ch == 10) = true ∨ (ch == 10) = false := by cases (ch == 10) <;> simp
  have HLC : Hid (((ch == 10) = true → lineOf ch line = line + 1 ∧ colOf ch col chw = 0) ∧ ((ch == 10) = false → lineOf ch line = line ∧ colOf ch col chw = col + chw)) := by
    refine ⟨fun h => ?_, fun h => ?_⟩
    · have : ch = 10 := by simpa using h
      simp [lineOf, colOf, this]
    · have : ¬ ch = 10 := by simpa using h
      simp [lineOf, colOf, this]
  go_enter Tryd.func57, Tryd.ntmps57
  go_step3
  go_wp2
  go_step3
  go_wp2
  go_region
  go_upto_if 18 with fail
  go_cut [] (fun wx => Raw wx c cur io b r e (lineOf ch line) (colOf ch col chw) ch chw ri ∧ Fr c w wx)
  case first =>
    rcases hcc with hc1 | hc1
    · go_wp2
      go_meet
      case rel => rw [(HLC.out.1 hc1).1, (HLC.out.1 hc1).2]; exact ⟨((((H.out.set8 (col + chw)).set7 (line + 1)).set8 0)).drew, (((((Fr.refl c w).setCell (.inl ⟨rfl, by simp⟩) _).setCell (.inl ⟨rfl, by simp⟩) _).setCell (.inl ⟨rfl, by simp⟩) _).drew)⟩
    · go_wp2
      go_meet
      case rel => rw [(HLC.out.2 hc1).1, (HLC.out.2 hc1).2]; exact ⟨(H.out.set8 (col + chw)).drew, ((Fr.refl c w).setCell (.inl ⟨rfl, by simp⟩) _).drew⟩
  case rest =>
    obtain ⟨h, hF⟩ := hcut
    have G := HG.out.fr h.ok hF
    have H1 := Lib.hid h
    have HF1 := Lib.hid hF
    have HG1 := HG
    have bc := h.byte HB.out
    clear c2 c5 c6 c7 c8 c9 c10 fs H HG hF G hcc HLC
    obtain ⟨ok, c0, c1, c2, c3, c4, c5, c6, c7, c8, c9, c10, fs, buf, len, r0, r1, r2, fr⟩ := h
    clear c0 c1 c3 c4 c7 c8 buf len r0 r1 r2 fr
    go_wp2
    go_region
    go_upto_block 0 with fail
    go_cut [] (fun wx => Raw wx c cur io b r e (lineOf ch line) (colOf ch col chw) x0 chw ri ∧ Fr c w wx)
    case first =>
      go_wp2_with fail
      go_loopg [] 0 (fun g wr => Raw wr c cur io b r e (lineOf ch line) (colOf ch col chw) x0 chw ri ∧ Fr c w wr)
      case atStart => exact ⟨(H1.out.set9 _).drew, (HF1.out.setCell (.inl ⟨rfl, by simp⟩) _).drew⟩
      case round =>
        obtain ⟨h, hF⟩ := hrel
        have G := HG1.out.fr h.ok hF
        have H' := Lib.hid h
        have HF := Lib.hid hF
        have gt := G.tabs.1 x0 (by omega)
        clear c2 c5 c6 c9 c10 fs bc H1 HF1 hF G
        have bc := H'.out.byte HB.out
        obtain ⟨ok, c0, c1, c2, c3, c4, c5, c6, c7, c8, c9, c10, fs, buf, len, r0, r1, r2, fr⟩ := h
        clear c0 c1 c3 c4 c7 c8 c9 buf len r0 r1 r2 fr
        have hw := HW.out
        rcases HD4.out with hd4 | hd4
        · go_wp2_with fail
          go_quiet ((go_at_call 82; refine Calls.quiet_of_same (full_yes c.bb r (e - r) (4096 - r) x0 _ _ _ rfl gt bc hx256 hft7 hk8 (by omega) (by omega))))
          go_wp2
          go_meet
          case rel => exact ⟨H'.out.drewN _, HF.out.drewN _⟩
        · go_wp2_with fail
          go_quiet (fail)
          go_wp2
          go_meet
          case rel => exact ⟨H'.out.drewN _, HF.out.drewN _⟩
    case rest =>
      obtain ⟨h, hF⟩ := hcut
      have H' := Lib.hid h
      have HF := Lib.hid hF
      have G := HG1.out.fr h.ok hF
      have GT := Lib.hid G.tabs
      have HCELLS := Lib.hid (fun j (hj : j < (enc x ++ t).length) => H'.out.byte (HCUR.out j hj))
      clear c2 c5 c6 c9 c10 fs bc H1 HF1 hF G
      obtain ⟨ok, c0, c1, c2, c3, c4, c5, c6, c7, c8, c9, c10, fs, buf, len, r0, r1, r2, fr⟩ := h
      clear c0 c1 c3 c4 c7 c8 buf len r0 r1 r2 fr
      have hre2 : (r == e) = false := by simp; omega
      have h4096 : ¬ (4096 = r) := by omega
      have hre3 : (r : Int) ≤ (e : Int) := by omega
      have he4 : (e : Int) ≤ 4096 := by omega
      have n92 : (⟨c.sb, 9, none⟩ : Addr) ≠ ⟨c.sb, 2, none⟩ := (by simp)
      have n95 : (⟨c.sb, 9, none⟩ : Addr) ≠ ⟨c.sb, 5, none⟩ := (by simp)
      have n96 : (⟨c.sb, 9, none⟩ : Addr) ≠ ⟨c.sb, 6, none⟩ := (by simp)
      have n102 : (⟨c.sb, 10, none⟩ : Addr) ≠ ⟨c.sb, 2, none⟩ := (by simp)
      have n105 : (⟨c.sb, 10, none⟩ : Addr) ≠ ⟨c.sb, 5, none⟩ := (by simp)
      have n106 : (⟨c.sb, 10, none⟩ : Addr) ≠ ⟨c.sb, 6, none⟩ := (by simp)
      go_wp2
      go_quiet (fail)
      go_wp2
      go_region_held3 (fun w' => w'.cell? ⟨c.sb, 2, none⟩ = some (.slice (some ⟨c.bb, 0, none⟩) 4096 4096) ∧ w'.cell? ⟨c.sb, 5, none⟩ = some (.int .i64 r) ∧ w'.cell? ⟨c.sb, 6, none⟩ = some (.int .i64 e)) (first | exact ⟨c2, c5, c6⟩ | exact ⟨d2, d5, d6⟩ | exact ⟨(World.cell?_setCell_other _ _ _ _ n92).trans d2, (World.cell?_setCell_other _ _ _ _ n95).trans d5, (World.cell?_setCell_other _ _ _ _ n96).trans d6⟩ | exact ⟨(World.cell?_setCell_other _ _ _ _ n102).trans ((World.cell?_setCell_other _ _ _ _ n92).trans d2), (World.cell?_setCell_other _ _ _ _ n105).trans ((World.cell?_setCell_other _ _ _ _ n95).trans d5), (World.cell?_setCell_other _ _ _ _ n106).trans ((World.cell?_setCell_other _ _ _ _ n96).trans d6)⟩ | exact ⟨(World.cell?_setCell_other _ _ _ _ n92).trans ((World.cell?_setCell_other _ _ _ _ n102).trans d2), (World.cell?_setCell_other _ _ _ _ n95).trans ((World.cell?_setCell_other _ _ _ _ n105).trans d5), (World.cell?_setCell_other _ _ _ _ n96).trans ((World.cell?_setCell_other _ _ _ _ n106).trans d6)⟩ | exact ⟨(World.cell?_setCell_other _ _ _ _ n102).trans d2, (World.cell?_setCell_other _ _ _ _ n105).trans d5, (World.cell?_setCell_other _ _ _ _ n106).trans d6⟩)
        (first | (go_at_call 84; refine (decode_calls x HX.out t c.bb r (e - r) (4096 - r) _ HL.out.symm (by exact GT.out) (by exact HCELLS.out)).mono ?_; rintro e' w' ⟨rfl, hb⟩; have hR := Raw.below (H'.out.drewN _) hb; have hF := (HF.out.drewN _).below (cell_lt (H'.out.drewN _).c0) hb; have d2 := hR.c2; have d5 := hR.c5; have d6 := hR.c6; have d9 := hR.c9; have d10 := hR.c10; have df := hR.fs))
      have hL : ((enc x).length : Int) ≤ 4 := by omega
      have x1 : ((x : Int) == 65533) = false := by have := HX.out.2.2.1; simp; omega
      have x2 : ((x : Int) == 65279) = false := by have := HX.out.2.1; simp; omega
      go_wp2
      go_region
      go_wp2
      rw [Exit.noGoto_normal]
      refine bodyPost_end (results_none rfl _ _ _) rfl ⟨rfl, ?_, ?_⟩
      · exact (((hR.set9 _).set10 _).set5 (r + (enc x).length)).drew
      · exact (((hF.setCell (.inl ⟨rfl, by simp⟩) _).setCell (.inl ⟨rfl, by simp⟩) _).setCell (.inl ⟨rfl, by simp⟩) _).drew
end Go.Proofs.YtnehkpoggkfikaaDoor
