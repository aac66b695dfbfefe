/-
  The line remark's statement, walked. Conditions: each law's own.
-/
import Derived.Test.YtnehkpoggkfikaaDoorDLine
import Derived.Test.YtnehkpoggkfikaaDoorFullC
import Derived.Test.YtnehkpoggkfikaaDoorLRaw
namespace Go.Proofs.YtnehkpoggkfikaaDoor
open Go.RowKit
set_option linter.unusedVariables false

theorem EndAt.ofP {w w' : World} {E : Env} {p : List UInt8} {l rest : List Nat} {m : Int} {o : Option (List UInt8)} {ns : List Note} (h : OpenTo w E p l m) (hF : GF E w w') (hS : ScanP w' E o rest ns.length (cellsU ns)) : EndAt w' E ⟨#[]⟩ 0 false (chOf rest) ns := by
  have c9 := hS.ch
  obtain ⟨s, hS, -⟩ := hS
  exact ⟨hS.ok, c9, (hF.tail 17 (by omega)).trans h.c17, (hF.tail 18 (by omega)).trans h.c18, (hF.tail 19 (by omega)).trans h.c19, hS.told⟩
theorem OpenTo.okAll {w : World} {E : Env} {p : List UInt8} {l : List Nat} {m : Int} (h : OpenTo w E p l m) : okAll l.tail := by
  obtain ⟨s, h, ha⟩ := h.at_
  have := h.src.1.ok
  rw [ha.rest] at this; exact this

/-- A line's remark: up to the line's end; told where asked for. -/
def LineIs (m : Int) (l : List Nat) : TokR := fun lit kind bad ch ns => ∃ a rest, l = a ++ rest ∧ 10 ∉ a ∧ (rest = [] ∨ ∃ r, rest = 10 :: r) ∧ ch = chOf rest ∧
  ((m = 1 ∧ ∃ x y : Int, ns = [(x, y, ⟨(enc 47 ++ enc 47 ++ encs a).toArray⟩)]) ∨ (m = 0 ∧ ns = []))
theorem line_ch {rest : List Nat} (h : rest = [] ∨ ∃ r, rest = 10 :: r) : -2147483648 ≤ chOf rest ∧ chOf rest ≤ 2147483647 := by
  rcases h with rfl | ⟨r, rfl⟩ <;> simp [chOf]
theorem reads_line (m : Int) (hm : m = 1 ∨ m = 0) (l : List Nat) : ReadsLine (LineIs m l) 47 47 l m := by
  intro E w h
  rcases hm with rfl | rfl
  · refine (lineComment_told E _ l 0 [] 1 1 w h.at_ (by omega) h.tail).mono ?_
    rintro e w' ⟨rfl, a, rest, h1, h2, h3, ⟨x, y, hS⟩, hF⟩
    exact TokEnd.mk (ns := [(x, y, _)]) hF.tk ⟨a, rest, h1, h2, h3, rfl, .inl ⟨rfl, x, y, rfl⟩⟩ (by omega) (line_ch h3) (EndAt.ofP (o := some _) h hF hS)
  · refine (lineComment_off E _ l 0 [] 1 1 w h.at_ (by decide +kernel) h.tail).mono ?_
    rintro e w' ⟨rfl, a, rest, h1, h2, h3, hS, hF⟩
    exact TokEnd.mk (ns := []) hF.tk ⟨a, rest, h1, h2, h3, rfl, .inr ⟨rfl, rfl⟩⟩ (by omega) (line_ch h3) (EndAt.ofP (o := none) h hF hS)

theorem line_split {rs t a rest : List Nat} (h : rs ++ t = a ++ rest) (h1 : 10 ∉ rs) (h2 : 10 ∉ a) (ht : t = [] ∨ ∃ r, t = 10 :: r) (hr : rest = [] ∨ ∃ r, rest = 10 :: r) : a = rs ∧ rest = t := by
  induction rs generalizing a with
  | nil =>
    cases a with
    | nil => simp at h; exact ⟨rfl, h.symm⟩
    | cons y a =>
      rcases ht with rfl | ⟨r, rfl⟩
      · simp at h
      · simp at h; simp [h.1] at h2
  | cons x rs ih =>
    cases a with
    | nil =>
      rcases hr with rfl | ⟨r, rfl⟩
      · simp at h
      · simp at h; simp [h.1] at h1
    | cons y a =>
      simp at h h1 h2
      obtain ⟨h3, h4⟩ := h
      obtain ⟨e1, e2⟩ := ih h4 h1.2 h2.2
      exact ⟨by rw [e1, h3], e2⟩

/-- What the line remark's text gives. -/
def LineText (s tb : ByteArray) (nx : Int) (rs t : List Nat) : Prop :=
  okAll (47 :: 47 :: (rs ++ t)) ∧ (((⟨#[47, 47]⟩ ++ s) ++ tb : ByteArray).data.toList = encs (47 :: 47 :: (rs ++ t))) ∧ (((⟨#[47, 47]⟩ ++ s) ++ tb : ByteArray).size : Int) ≤ 1900 ∧
  (∀ lit kind bad ch ns, LineIs 1 (rs ++ t) lit kind bad ch ns → ch = nx ∧ ∃ x y : Int, ns = [(x, y, ⟨#[47, 47]⟩ ++ s)]) ∧
  (∀ lit kind bad ch ns, LineIs 0 (rs ++ t) lit kind bad ch ns → ch = nx ∧ ns = [])
theorem line_text {s tb : ByteArray} {t : List Nat} {nx : Int} (hT : IsText s) (hN : NoneOf s ⟨#[13, 10]⟩) (htb : tb.data.toList = encs t) (okt : okAll t) (hl : tb.size ≤ 2) (ht : t = [] ∨ ∃ r, t = 10 :: r) (hx : nx = chOf t) : ∃ rs, LineText s tb nx rs t := by
  obtain ⟨rs, hs, hok, h60⟩ := hT
  have h10 : 10 ∉ rs := none_of hs 10 (by omega) 10 (by decide +kernel) fun i hi => hN i hi 1 (by decide)
  have e47 : enc 47 = [47] := by decide +kernel
  have hd : (((⟨#[47, 47]⟩ ++ s) ++ tb : ByteArray).data.toList = encs (47 :: 47 :: (rs ++ t))) := by
    simp only [ByteArray.data_append, Array.toList_append, hs, encs, encs_append, e47, htb]
    simp
  have hq : ∀ m lit kind bad ch ns, LineIs m (rs ++ t) lit kind bad ch ns → ch = nx ∧ ((m = 1 ∧ ∃ x y : Int, ns = [(x, y, ⟨#[47, 47]⟩ ++ s)]) ∨ (m = 0 ∧ ns = [])) := by
    rintro m lit kind bad ch ns ⟨a, rest, h1, h2, h3, h4, h5⟩
    obtain ⟨rfl, rfl⟩ := line_split h1 h10 h2 ht h3
    refine ⟨by rw [h4, hx], ?_⟩
    rcases h5 with ⟨a1, x, y, a2⟩ | h5
    · refine .inl ⟨a1, x, y, ?_⟩
      rw [a2]
      have e : (⟨(enc 47 ++ enc 47 ++ encs a).toArray⟩ : ByteArray) = ⟨#[47, 47]⟩ ++ s := by
        apply ByteArray.ext
        apply Array.toList_inj.1
        simp only [ByteArray.data_append, Array.toList_append, hs, e47]
        simp
      rw [e]
    · exact .inr h5
  refine ⟨rs, okAll_cons.2 ⟨by unfold okR; omega, okAll_cons.2 ⟨by unfold okR; omega, okAll_append.2 ⟨hok, okt⟩⟩⟩, hd, ?_, ?_, ?_⟩
  · simp only [ByteArray.size_append]
    have : (⟨#[47, 47]⟩ : ByteArray).size = 2 := rfl
    omega
  · intro lit kind bad ch ns h
    obtain ⟨h1, ⟨_, h2⟩ | ⟨h2, _⟩⟩ := hq 1 _ _ _ _ _ h
    · exact ⟨h1, h2⟩
    · omega
  · intro lit kind bad ch ns h
    obtain ⟨h1, ⟨h2, _⟩ | ⟨_, h2⟩⟩ := hq 0 _ _ _ _ _ h
    · omega
    · exact ⟨h1, h2⟩

theorem bel_two {w w2 : World} (h : Below w.heap.size w w2) (a b : Obj) : Below w.heap.size w ((w2.alloc a).alloc b).drew := by
  have k := (h.alloc h.size a).alloc (by have := h.size; simp; omega) b
  exact ⟨k.os, k.tape, k.output, k.size, k.block⟩
/-- One note, as the reader of a part hands it on. -/
theorem one_note {w : World} {B : Nat} {v : Value} {l' : List Note} {x y : Int} {m : ByteArray} (htx : l'.map (·.2.2) = [(x, y, m)].map (·.2.2)) (h : w.ownsRow B 36 3 v l'.length (cellsI l')) :
    ∃ g c, v = .slice (some ⟨g, 0, none⟩) 1 c ∧ g < w.heap.size ∧ w.cell? ⟨g, 2, none⟩ = some (.string m) := by
  match l', htx with
  | [(a, b, m')], htx =>
    simp at htx
    subst htx
    obtain ⟨hlen, ⟨_, h⟩ | ⟨g, cap, cur, rfl, hg, hb, h2, h3, h4, h5⟩⟩ := h
    · simp at h
    · refine ⟨g, cap, rfl, (Array.getElem?_eq_some_iff.1 hb).1, ?_⟩
      unfold World.cell?
      rw [hb]
      have : (cur.toList.take (1 * 3))[2]? = (cellsI [(a, b, m')])[2]? := by
        have h5' : cur.toList.take (1 * 3) = cellsI [(a, b, m')] := h5
        rw [h5']
      rw [List.getElem?_take] at this
      simpa [cellsI] using this
theorem no_note {w : World} {B : Nat} {v : Value} {l' : List Note} (htx : l'.map (·.2.2) = ([] : List Note).map (·.2.2)) (h : w.ownsRow B 36 3 v l'.length (cellsI l')) : ∃ a c, v = .slice a 0 c := by
  have e : l' = [] := by simpa using htx
  subst e
  exact ownsRow_slice h

set_option maxRecDepth 100000 in
set_option maxHeartbeats 2000000 in
theorem fnLine_calls (s : ByteArray) (n : Int) (ea : Addr) (w : World) (h0 : 0 ≤ n) (h1 : n < 256) (hG : Glob w ea) (hw : 12 ≤ w.heap.size) :
    Calls Tryd.prog 5 #[.string s, .int .u8 n] w fun e w' => e = .returned (.bool true) ∧ Below w.heap.size w w' := by
  have HG := Lib.hid hG
  clear hG
  by_cases hs : (s.size : Int) ≤ 2147483647
  case neg =>
    have hs' : decide (2147483647 < (s.size : Int)) = true := by simp; omega
    go_enter Tryd.func5, Tryd.ntmps5
    go_wp2_with fail
    go_ret
    exact ⟨rfl, Below.refl _ _⟩
  have hs' : decide (2147483647 < (s.size : Int)) = false := by simp; omega
  have hc : n % 3 = 0 ∨ n % 3 = 1 ∨ n % 3 = 2 := by omega
  rcases hc with hm | hm | hm
  · go_enter Tryd.func5, Tryd.ntmps5
    go_wp2_with fail
    go_at_call 17
    refine (textok_calls s _ (by omega)).mono ?_
    rintro e w1 ⟨⟨b1, rfl, hb1⟩, hB1⟩
    cases b1
    · go_wp2_with fail
      go_ret
      exact ⟨rfl, hB1⟩
    have hT := Lib.hid (hb1 rfl)
    have HB1 := Lib.hid hB1
    clear hb1 hB1
    go_wp2_with fail
    go_at_call 18
    refine (without_calls s ⟨#[13, 10]⟩ _ (by omega) (by decide)).mono ?_
    rintro e w2 ⟨⟨b2, rfl, hb2⟩, hB2⟩
    cases b2
    · go_wp2_with fail
      go_ret
      exact ⟨rfl, HB1.out.trans (hB2.mono HB1.out.size)⟩
    obtain ⟨rs, hok, hd, hmax, hR1, hR0⟩ := line_text (tb := ⟨#[]⟩) (t := []) (nx := -1) hT.out (hb2 rfl) (by decide +kernel) (by intro r hr; revert r; decide) (by decide) (.inl rfl) rfl
    have HB2 : Hid (Below w.heap.size w w2) := HB1.out.trans (hB2.mono HB1.out.size)
    have HR1 := Lib.hid hR1
    have HR0 := Lib.hid hR0
    have HOK := Lib.hid hok
    have HD := Lib.hid hd
    have hlen : ¬ 9223372036854775807 < 2 + s.size := by omega
    clear hb2 hB2 hR1 hR0 hok hd
    go_wp2_with fail
    go_region
    go_wp2_with fail
    all_goals
      refine (implLine_calls _ 47 47 (rs ++ []) 1 (by omega) (by omega) ea (reads_line 1 (.inl rfl) _) _ (glob_below HG.out (bel_two HB2.out _ _)) HOK.out HD.out hmax (Nat.le_trans hw (bel_two HB2.out _ _).size)).mono ?_
      rintro e w4 ⟨lit, kind, bad, ch, ns, hIs, v, l', rfl, htx, hrow, hB4⟩
      obtain ⟨rfl, x, y, rfl⟩ := HR1.out _ _ _ _ _ hIs
      obtain ⟨g, tc, rfl, hg, hcell⟩ := one_note htx hrow
      have HB4 : Hid (Below w.heap.size w w4) := (bel_two HB2.out _ _).trans (hB4.mono (bel_two HB2.out _ _).size)
      clear hIs htx hrow hB4
      go_wp2_with fail
      refine (implLine_calls _ 47 47 (rs ++ []) 0 (by omega) (by omega) ea (reads_line 0 (.inr rfl) _) _ (glob_below HG.out HB4.out) HOK.out HD.out hmax (Nat.le_trans hw HB4.out.size)).mono ?_
      rintro e w5 ⟨lit2, kind2, bad2, ch2, ns2, hIs, v2, l2, rfl, htx, hrow, hB5⟩
      obtain ⟨rfl, rfl⟩ := HR0.out _ _ _ _ _ hIs
      obtain ⟨ta, tc2, rfl⟩ := no_note htx hrow
      have hcell2 : w5.cell? ⟨g, 2, none⟩ = some (.string (⟨#[47, 47]⟩ ++ s)) := by rw [hB5.cell (p := ⟨g, 2, none⟩) hg]; exact hcell
      have HB5 : Hid (Below w.heap.size w w5) := HB4.out.trans (hB5.mono HB4.out.size)
      have hg2 : g < w5.heap.size := Nat.lt_of_lt_of_le hg hB5.size
      have hg3 : ¬ w5.heap.size = g := by omega
      have hg4 : ¬ w5.heap.size + 1 = g := by omega
      clear hIs htx hrow hB5 hcell hg
      go_wp2_with fail
      go_ret
      have hz := HB5.out.size
      exact ⟨rfl, (HB5.out.alloc hz _).alloc (by simp; omega) _⟩
  · go_enter Tryd.func5, Tryd.ntmps5
    go_wp2_with fail
    go_at_call 17
    refine (textok_calls s _ (by omega)).mono ?_
    rintro e w1 ⟨⟨b1, rfl, hb1⟩, hB1⟩
    cases b1
    · go_wp2_with fail
      go_ret
      exact ⟨rfl, hB1⟩
    have hT := Lib.hid (hb1 rfl)
    have HB1 := Lib.hid hB1
    clear hb1 hB1
    go_wp2_with fail
    go_at_call 18
    refine (without_calls s ⟨#[13, 10]⟩ _ (by omega) (by decide)).mono ?_
    rintro e w2 ⟨⟨b2, rfl, hb2⟩, hB2⟩
    cases b2
    · go_wp2_with fail
      go_ret
      exact ⟨rfl, HB1.out.trans (hB2.mono HB1.out.size)⟩
    obtain ⟨rs, hok, hd, hmax, hR1, hR0⟩ := line_text (tb := ⟨#[10]⟩) (t := [10]) (nx := 10) hT.out (hb2 rfl) (by decide +kernel) (by intro r hr; revert r; decide) (by decide) (.inr ⟨_, rfl⟩) rfl
    have HB2 : Hid (Below w.heap.size w w2) := HB1.out.trans (hB2.mono HB1.out.size)
    have HR1 := Lib.hid hR1
    have HR0 := Lib.hid hR0
    have HOK := Lib.hid hok
    have HD := Lib.hid hd
    have hlen : ¬ 9223372036854775807 < 2 + s.size := by omega
    clear hb2 hB2 hR1 hR0 hok hd
    go_wp2_with fail
    go_region
    go_wp2_with fail
    all_goals
      refine (implLine_calls _ 47 47 (rs ++ [10]) 1 (by omega) (by omega) ea (reads_line 1 (.inl rfl) _) _ (glob_below HG.out (bel_two HB2.out _ _)) HOK.out HD.out hmax (Nat.le_trans hw (bel_two HB2.out _ _).size)).mono ?_
      rintro e w4 ⟨lit, kind, bad, ch, ns, hIs, v, l', rfl, htx, hrow, hB4⟩
      obtain ⟨rfl, x, y, rfl⟩ := HR1.out _ _ _ _ _ hIs
      obtain ⟨g, tc, rfl, hg, hcell⟩ := one_note htx hrow
      have HB4 : Hid (Below w.heap.size w w4) := (bel_two HB2.out _ _).trans (hB4.mono (bel_two HB2.out _ _).size)
      clear hIs htx hrow hB4
      go_wp2_with fail
      refine (implLine_calls _ 47 47 (rs ++ [10]) 0 (by omega) (by omega) ea (reads_line 0 (.inr rfl) _) _ (glob_below HG.out HB4.out) HOK.out HD.out hmax (Nat.le_trans hw HB4.out.size)).mono ?_
      rintro e w5 ⟨lit2, kind2, bad2, ch2, ns2, hIs, v2, l2, rfl, htx, hrow, hB5⟩
      obtain ⟨rfl, rfl⟩ := HR0.out _ _ _ _ _ hIs
      obtain ⟨ta, tc2, rfl⟩ := no_note htx hrow
      have hcell2 : w5.cell? ⟨g, 2, none⟩ = some (.string (⟨#[47, 47]⟩ ++ s)) := by rw [hB5.cell (p := ⟨g, 2, none⟩) hg]; exact hcell
      have HB5 : Hid (Below w.heap.size w w5) := HB4.out.trans (hB5.mono HB4.out.size)
      have hg2 : g < w5.heap.size := Nat.lt_of_lt_of_le hg hB5.size
      have hg3 : ¬ w5.heap.size = g := by omega
      have hg4 : ¬ w5.heap.size + 1 = g := by omega
      clear hIs htx hrow hB5 hcell hg
      go_wp2_with fail
      go_ret
      have hz := HB5.out.size
      exact ⟨rfl, (HB5.out.alloc hz _).alloc (by simp; omega) _⟩
  · go_enter Tryd.func5, Tryd.ntmps5
    go_wp2_with fail
    go_at_call 17
    refine (textok_calls s _ (by omega)).mono ?_
    rintro e w1 ⟨⟨b1, rfl, hb1⟩, hB1⟩
    cases b1
    · go_wp2_with fail
      go_ret
      exact ⟨rfl, hB1⟩
    have hT := Lib.hid (hb1 rfl)
    have HB1 := Lib.hid hB1
    clear hb1 hB1
    go_wp2_with fail
    go_at_call 18
    refine (without_calls s ⟨#[13, 10]⟩ _ (by omega) (by decide)).mono ?_
    rintro e w2 ⟨⟨b2, rfl, hb2⟩, hB2⟩
    cases b2
    · go_wp2_with fail
      go_ret
      exact ⟨rfl, HB1.out.trans (hB2.mono HB1.out.size)⟩
    obtain ⟨rs, hok, hd, hmax, hR1, hR0⟩ := line_text (tb := ⟨#[10, 120]⟩) (t := [10, 120]) (nx := 10) hT.out (hb2 rfl) (by decide +kernel) (by intro r hr; revert r; decide) (by decide) (.inr ⟨_, rfl⟩) rfl
    have HB2 : Hid (Below w.heap.size w w2) := HB1.out.trans (hB2.mono HB1.out.size)
    have HR1 := Lib.hid hR1
    have HR0 := Lib.hid hR0
    have HOK := Lib.hid hok
    have HD := Lib.hid hd
    have hlen : ¬ 9223372036854775807 < 2 + s.size := by omega
    clear hb2 hB2 hR1 hR0 hok hd
    go_wp2_with fail
    go_region
    go_wp2_with fail
    all_goals
      refine (implLine_calls _ 47 47 (rs ++ [10, 120]) 1 (by omega) (by omega) ea (reads_line 1 (.inl rfl) _) _ (glob_below HG.out (bel_two HB2.out _ _)) HOK.out HD.out hmax (Nat.le_trans hw (bel_two HB2.out _ _).size)).mono ?_
      rintro e w4 ⟨lit, kind, bad, ch, ns, hIs, v, l', rfl, htx, hrow, hB4⟩
      obtain ⟨rfl, x, y, rfl⟩ := HR1.out _ _ _ _ _ hIs
      obtain ⟨g, tc, rfl, hg, hcell⟩ := one_note htx hrow
      have HB4 : Hid (Below w.heap.size w w4) := (bel_two HB2.out _ _).trans (hB4.mono (bel_two HB2.out _ _).size)
      clear hIs htx hrow hB4
      go_wp2_with fail
      refine (implLine_calls _ 47 47 (rs ++ [10, 120]) 0 (by omega) (by omega) ea (reads_line 0 (.inr rfl) _) _ (glob_below HG.out HB4.out) HOK.out HD.out hmax (Nat.le_trans hw HB4.out.size)).mono ?_
      rintro e w5 ⟨lit2, kind2, bad2, ch2, ns2, hIs, v2, l2, rfl, htx, hrow, hB5⟩
      obtain ⟨rfl, rfl⟩ := HR0.out _ _ _ _ _ hIs
      obtain ⟨ta, tc2, rfl⟩ := no_note htx hrow
      have hcell2 : w5.cell? ⟨g, 2, none⟩ = some (.string (⟨#[47, 47]⟩ ++ s)) := by rw [hB5.cell (p := ⟨g, 2, none⟩) hg]; exact hcell
      have HB5 : Hid (Below w.heap.size w w5) := HB4.out.trans (hB5.mono HB4.out.size)
      have hg2 : g < w5.heap.size := Nat.lt_of_lt_of_le hg hB5.size
      have hg3 : ¬ w5.heap.size = g := by omega
      have hg4 : ¬ w5.heap.size + 1 = g := by omega
      clear hIs htx hrow hB5 hcell hg
      go_wp2_with fail
      go_ret
      have hz := HB5.out.size
      exact ⟨rfl, (HB5.out.alloc hz _).alloc (by simp; omega) _⟩
end Go.Proofs.YtnehkpoggkfikaaDoor
