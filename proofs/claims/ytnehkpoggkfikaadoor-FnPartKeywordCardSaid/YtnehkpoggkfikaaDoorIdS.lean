/-
  The specification's names, walked: letters, keywords, names. Conditions: each law's own.
-/
import Derived.Test.YtnehkpoggkfikaaDoorIdL
import Derived.Test.YtnehkpoggkfikaaDoorSpec1
import Derived.Test.YtnehkpoggkfikaaDoorSpecI
import Derived.Lib.OthersKept
namespace Go.Proofs.YtnehkpoggkfikaaDoor
open Go.RowKit
set_option linter.unusedVariables false

theorem sLetter_calls (c : Nat) (b : Bool) (hb : ltr c = b) (w : World) (hT : Tabs w) (hc : (c : Int) ≤ 2147483647) : Calls Tryd.prog 51 #[.int .i32 (c : Int)] w fun e w' => e = .returned (.bool b) ∧ Below w.heap.size w w' := by
  have HT := Lib.hid hT
  clear hT
  unfold ltr at hb
  obtain ⟨b1, hb1⟩ : ∃ b, Lib.isLetterU (c : Int) = b := ⟨_, rfl⟩
  rw [hb1] at hb
  have HB1 := Lib.hid hb1
  clear hb1
  by_cases h95 : c = 95
  · have t95 : ((c : Int) == 95) = true := by simp; omega
    have e : b = true := by rw [← hb]; simp [h95]
    subst e
    clear hb h95
    go_enter Tryd.func51, Tryd.ntmps51
    go_wp2_with fail
    go_ret
    exact ⟨rfl, Below.refl _ _⟩
  · have t95 : ((c : Int) == 95) = false := by simp; omega
    have e : b = b1 := by rw [← hb]; simp [h95]
    subst e
    clear hb h95
    go_enter Tryd.func51, Tryd.ntmps51
    go_wp2_with (go_at_call 72; refine (isLetter_tab _ _ HT.out (by omega) hc).mono ?_; rintro e w1 ⟨rfl, hB⟩; rw [HB1.out]; have HB := Lib.hid hB; clear hB)
    go_ret
    exact ⟨rfl, HB.out⟩
theorem size_zeroI {s : ByteArray} (h : s.size = 0) : s = ByteArray.empty := by
  cases s; rename_i a; simp [ByteArray.size] at h; subst h; rfl
theorem toList_neI {s : ByteArray} (h : s.size ≠ 0) : s.toList.isEmpty = false ∧ ¬ s.toList = [] := by
  rw [ByteArray.toList_eq]
  have : s.data.toList.length = s.size := rfl
  cases hd : s.data.toList with
  | nil => rw [hd] at this; simp at this; omega
  | cons a l => simp
/-- The keywords as one text, each between blanks. -/
def kwText : ByteArray := ⟨(32 :: kwL.flatMap fun w => w.data.toList ++ [32]).toArray⟩
def kwPos (i : Nat) : Nat := ((kwL.take i).map fun w => w.size + 1).sum
theorem kw_up : ∀ i : Fin 25, kwText.extract (kwPos i.val) (kwPos i.val + (⟨#[32]⟩ ++ kwS (i.val + 22) ++ ⟨#[32]⟩ : ByteArray).size) = ⟨#[32]⟩ ++ kwS (i.val + 22) ++ ⟨#[32]⟩ ∧
    kwPos i.val + (⟨#[32]⟩ ++ kwS (i.val + 22) ++ ⟨#[32]⟩ : ByteArray).size ≤ kwText.size ∧ Lib.indexByte (kwS (i.val + 22)).data.toList 32 < 0 := by decide +kernel
theorem kw_not_up {t : Nat} (h1 : 22 ≤ t) (h2 : t ≤ 46) : ¬ NotUp kwText (⟨#[32]⟩ ++ kwS t ++ ⟨#[32]⟩) (kwText.size + 1) := by
  intro h
  have := kw_up ⟨t - 22, by omega⟩
  simp only [show t - 22 + 22 = t by omega] at this
  exact h (kwPos (t - 22)) (by omega) this.2.1 this.1
theorem kw_no_blank {t : Nat} (h1 : 22 ≤ t) (h2 : t ≤ 46) : Lib.indexByte (kwS t).data.toList 32 < 0 := by
  have := kw_up ⟨t - 22, by omega⟩
  simp only [show t - 22 + 22 = t by omega] at this
  exact this.2.2
theorem kwIndex_calls (K x : ByteArray) (hK : K = kwText) (hx : x.size ≤ 3000) (w : World) : Calls Tryd.prog 69 #[.string K, .string x] w (IdxQ kwText x w) := by
  subst hK
  exact index_calls kwText x w (by decide +kernel) (by omega)
/-- What IsKeyword gives. -/
def KwNot (s : ByteArray) (w : World) (e : Ending) (w' : World) : Prop := (∃ b, e = .returned (.bool b) ∧ (b = false → ∀ t : Nat, 22 ≤ t → t ≤ 46 → s ≠ kwS t)) ∧ w = w'
theorem kwNot_mk {s : ByteArray} {w : World} (b : Bool) (h : b = false → ∀ t : Nat, 22 ≤ t → t ≤ 46 → s ≠ kwS t) : KwNot s w (.returned (.bool b)) w := ⟨⟨b, rfl, h⟩, rfl⟩
set_option maxRecDepth 100000 in
set_option maxHeartbeats 1000000 in
theorem isKeyword_calls (s : ByteArray) (w : World) (hs : s.size ≤ 2000) : Calls Tryd.prog 53 #[.string s] w (KwNot s w) := by
  have hs' : (s.size : Int) ≤ 2000 := by omega
  have hl1 : ¬ 9223372036854775807 < 1 + s.size := by omega
  have hl2 : ¬ 9223372036854775807 < 1 + s.size + 1 := by omega
  by_cases h0 : s.size = 0
  · have e0 := size_zeroI h0
    subst e0
    go_enter Tryd.func53, Tryd.ntmps53
    go_wp2_with fail
    go_ret
    exact kwNot_mk _ fun _ t h1 h2 e => by
      have := (kw_size h1 h2).1
      rw [← e] at this
      simp at this
  obtain ⟨hne, hne2⟩ := toList_neI h0
  clear h0
  obtain ⟨z0, hz0⟩ : ∃ z, Lib.indexByte s.data.toList 32 = z := ⟨_, rfl⟩
  have HZ0 := Lib.hid hz0
  have hib : Hid (∀ w : World, Calls Tryd.prog 40 #[.string s, .int .u8 32] w fun e w' => e = .returned (.int .i64 z0) ∧ w = w') := fun w => (Tryd.strings_IndexByte s 32 w).mono fun e w' ⟨he, hw⟩ => ⟨by rw [he, ← hz0]; rfl, hw.symm⟩
  clear hz0
  by_cases hz : z0 < 0
  · have tz : decide (z0 < 0) = true := decide_eq_true hz
    obtain ⟨x, hx⟩ : ∃ x : ByteArray, x = ⟨#[32]⟩ ++ s ++ ⟨#[32]⟩ := ⟨_, rfl⟩
    have hxs : x.size ≤ 3000 := by rw [hx]; simp only [ByteArray.size_append]; have : (⟨#[32]⟩ : ByteArray).size = 1 := rfl; omega
    have HX := Lib.hid hx
    clear hx hz
    go_enter Tryd.func53, Tryd.ntmps53
    go_wp2_with (first | (go_at_call 40; refine (hib.out _).mono ?_; rintro e w1 ⟨rfl, rfl⟩) | (go_at_call 69; rw [← HX.out]; refine (kwIndex_calls _ x (by decide +kernel) hxs _).mono ?_; rintro e w1 ⟨⟨z1, rfl, hq⟩, rfl⟩; have HQ := Lib.hid hq; clear hq))
    go_ret
    refine kwNot_mk _ fun hb t h1 h2 e => kw_not_up h1 h2 ?_
    rw [← e, ← HX.out]
    exact HQ.out (by simpa using hb)
  · have tz : decide (z0 < 0) = false := decide_eq_false hz
    have HZ := Lib.hid hz
    clear hz
    go_enter Tryd.func53, Tryd.ntmps53
    go_wp2_with (go_at_call 40; refine (hib.out _).mono ?_; rintro e w1 ⟨rfl, rfl⟩)
    go_ret
    refine kwNot_mk _ fun _ t h1 h2 e => ?_
    have h3 := kw_no_blank h1 h2
    rw [← e, HZ0.out] at h3
    have h4 := HZ.out
    omega

/-- A name: its characters. -/
def NmL : List Nat → Prop
  | [] => True
  | x :: a => ltr x = true ∧ ∀ c ∈ a, idc c = true
/-- A text that is a name. -/
def NameOf (s : ByteArray) : Prop := ∃ x a, s.data.toList = encs (x :: a) ∧ okAll (x :: a) ∧ ltr x = true ∧ (∀ c ∈ a, idc c = true) ∧ ∀ t : Nat, 22 ≤ t → t ≤ 46 → s ≠ kwS t
/-- So far in a text. -/
structure NmAt (s : ByteArray) (pos : Nat) (rs : List Nat) : Prop where
  take : s.data.toList.take pos = encs rs
  ok : okAll rs
  le : pos ≤ s.size
  zero : pos = 0 ↔ rs = []
  nm : NmL rs
structure ItAt (w wr : World) (s : ByteArray) (pos : Nat) : Prop where
  it : wr.heap[w.heap.size]? = some (.stringIter s pos)
  below : Below w.heap.size w wr
theorem ItAt.next {w wr : World} {s : ByteArray} {pos : Nat} (h : ItAt w wr s pos) (pos' : Nat) : ItAt w (wr.iterAt w.heap.size s pos') s pos' :=
  ⟨Lib.iterAt_heap wr _ s pos pos' h.it, Lib.below_iterAt h.below (Nat.le_refl _) s pos'⟩
theorem ItAt.below2 {w wr w' : World} {s : ByteArray} {pos : Nat} (h : ItAt w wr s pos) (hB : Below wr.heap.size wr w') : ItAt w w' s pos :=
  ⟨by rw [hB.block _ (Array.getElem?_eq_some_iff.1 h.it).1]; exact h.it, h.below.trans (hB.mono h.below.size)⟩
theorem not_special : idc 0 = false ∧ idc 65279 = false := by decide +kernel
theorem ltr_idc {c : Nat} (h : ltr c = true) : idc c = true := by unfold idc; rw [h]; rfl
theorem nm_step {s : ByteArray} {pos : Nat} {rs : List Nat} {r wd : Nat} (h : NmAt s pos rs) (hp : pos < s.size) (hd : Utf8.decode s pos = (r, wd)) (hwd : 0 < wd) (h1 : r ≠ 65533) (h2 : if pos = 0 then ltr r = true else idc r = true) : NmAt s (pos + wd) (rs ++ [r]) := by
  have hi : idc r = true := by
    split at h2
    · exact ltr_idc h2
    · exact h2
  have e1 : (Utf8.decode s pos).1 = r := by rw [hd]
  have e2 : (Utf8.decode s pos).2 = wd := by rw [hd]
  obtain ⟨a, b, c⟩ := text_step hp h.take h.ok (by rw [e1]; exact h1) (by rw [e1]; rintro rfl; rw [not_special.1] at hi; cases hi) (by rw [e1]; rintro rfl; rw [not_special.2] at hi; cases hi)
  rw [e1, e2] at *
  refine ⟨b, c, a, ⟨fun h => by omega, fun h => by simp at h⟩, ?_⟩
  have hz := h.zero
  have hn := h.nm
  cases rs with
  | nil =>
    rw [if_pos (hz.2 rfl)] at h2
    exact ⟨h2, fun c hc => by cases hc⟩
  | cons x a =>
    exact ⟨hn.1, fun c hc => by
      rcases List.mem_append.1 hc with hc | hc
      · exact hn.2 c hc
      · simp at hc; subst hc; exact hi⟩
theorem nm_end {s : ByteArray} {pos : Nat} {rs : List Nat} (h : NmAt s pos rs) (hp : ¬ pos < s.size) (hs : s.size ≠ 0) (hk : ∀ t : Nat, 22 ≤ t → t ≤ 46 → s ≠ kwS t) : NameOf s := by
  have e : pos = s.size := by have := h.le; omega
  have ht := h.take
  rw [e, List.take_of_length_le (by show s.size ≤ s.size; omega)] at ht
  have hn := h.nm
  have hz := h.zero
  have ho := h.ok
  cases rs with
  | nil => exact absurd (e ▸ hz.2 rfl) hs
  | cons x a => exact ⟨x, a, ht, ho, hn.1, hn.2, hk⟩
/-- What IsName gives. -/
def NamePost (s : ByteArray) (w : World) (e : Ending) (w' : World) : Prop := (∃ b, e = .returned (.bool b) ∧ (b = true → NameOf s)) ∧ Below w.heap.size w w'
theorem name_no {s : ByteArray} {w w' : World} (h : Below w.heap.size w w') : NamePost s w (.returned (.bool false)) w' := ⟨⟨false, rfl, fun h => by cases h⟩, h⟩
theorem name_mk {s : ByteArray} {w w' : World} (b : Bool) (h : Below w.heap.size w w') (hb : b = true → NameOf s) : NamePost s w (.returned (.bool b)) w' := ⟨⟨b, rfl, hb⟩, h⟩
set_option maxRecDepth 100000 in
set_option maxHeartbeats 4000000 in
theorem isName_calls (s : ByteArray) (w : World) (hT : Tabs w) (hw : 12 ≤ w.heap.size) (hs : s.size ≤ 2000) : Calls Tryd.prog 34 #[.string s] w (NamePost s w) := by
  have hs' : (s.size : Int) ≤ 2000 := by omega
  have HT := Lib.hid hT
  have hn0 : Hid (∀ h0 : s.size ≠ 0, s.toList.isEmpty = false ∧ ¬ s.toList = []) := fun h0 => toList_neI h0
  clear hT
  go_enter Tryd.func34, Tryd.ntmps34
  go_wp2_with fail
  go_loopg [] s.size (fun g wr => ∃ pos rs, g = s.size - pos ∧ Hid (ItAt w wr s pos) ∧ Hid (NmAt s pos rs))
  case atStart => exact ⟨0, [], rfl, ⟨by show (w.heap.push _)[_]? = _; rw [Array.getElem?_push, if_pos rfl], below_iter _ _ _⟩, ⟨rfl, okAll_nil, by omega, ⟨fun _ => rfl, fun _ => rfl⟩, trivial⟩⟩
  case round =>
    obtain ⟨pos, rs, rfl, hI, hN⟩ := hrel
    by_cases hp : pos < s.size
    · have hnx : ∀ ty, (Instr.next (.pointer (some ⟨w.heap.size, 0, none⟩)) true ty).run Tryd.prog wr = _ := fun ty => Lib.run_next_any_at wr w.heap.size s pos ty hI.out.it hp
      have hwd := Lib.decode_width_pos s pos hp
      have hst : Hid (∀ r wd, Utf8.decode s pos = (r, wd) → 0 < wd → r ≠ 65533 → (if pos = 0 then ltr r = true else idc r = true) → NmAt s (pos + wd) (rs ++ [r])) := fun r wd h1 h2 h3 h4 => nm_step hN.out hp h1 h2 h3 h4
      have hrb : (Utf8.decode s pos).1 ≤ 1114111 := by
        have h : (Utf8.decode s pos).1 < 55296 ∨ (57343 < (Utf8.decode s pos).1 ∧ (Utf8.decode s pos).1 ≤ 1114111) := by rw [Lib.decode_N]; exact decodeN_valid _ _ _ _ _ (UInt8.toNat_lt _)
        omega
      obtain ⟨r, wd, hd⟩ : ∃ r wd, Utf8.decode s pos = (r, wd) := ⟨_, _, rfl⟩
      rw [hd] at hnx hwd hrb
      simp only at hnx hwd hrb
      have hnm : Hid (r ≠ 65533 → (if pos = 0 then ltr r = true else idc r = true) → NmAt s (pos + wd) (rs ++ [r])) := fun h3 h4 => hst.out r wd hd hwd h3 h4
      have hIn := hI.out.next (pos + wd)
      obtain ⟨wi, hwi⟩ : ∃ wi, wi = wr.iterAt w.heap.size s (pos + wd) := ⟨_, rfl⟩
      rw [← hwi] at hnx hIn
      have HI := Lib.hid hIn
      have hTi : Hid (Tabs wi) := HT.out.below hw hIn.below
      have hwi12 : Hid (12 ≤ wi.heap.size) := Nat.le_trans hw hIn.below.size
      have hrb2 : (r : Int) ≤ 2147483647 := by omega
      have hps : (pos : Int) ≤ 2000 := by omega
      have HWD : Hid (0 < wd) := hwd
      clear hwd hst hrb hd hIn hwi hI
      by_cases h1 : r = 65533
      · have t1 : ((r : Int) == 65533) = true := by simp; omega
        clear h1 hnm
        as_aux_lemma =>
          go_wp2_with fail
          go_ret
          exact name_no HI.out.below
      · have t1 : ((r : Int) == 65533) = false := by simp; omega
        have H1 := Lib.hid h1
        clear h1
        cases hb : ltr r with
        | true =>
          have HBL := Lib.hid hb
          have hnext : Hid (NmAt s (pos + wd) (rs ++ [r])) := hnm.out H1.out (by split; exact hb; exact ltr_idc hb)
          clear hb
          go_wp2_with (go_at_call 51; refine (sLetter_calls r true HBL.out _ hTi.out hrb2).mono ?_; rintro e w5 ⟨rfl, hB⟩; have HB := Lib.hid (HI.out.below2 hB); clear hB)
          go_roundg (s.size - (pos + wd))
          case measure => have := HWD.out; have := hp; omega
          case rel => exact ⟨pos + wd, _, rfl, HB.out, hnext.out⟩
        | false =>
          have HBL := Lib.hid hb
          clear hb
          by_cases h0 : pos = 0
          · have t0 : ((pos : Int) == 0) = true := by simp [h0]
            clear h0 hnm
            as_aux_lemma =>
              go_wp2_with (go_at_call 51; refine (sLetter_calls r false HBL.out _ hTi.out hrb2).mono ?_; rintro e w5 ⟨rfl, hB⟩; have HB := Lib.hid (HI.out.below2 hB); clear hB)
              go_ret
              exact name_no HB.out.below
          · have t0 : ((pos : Int) == 0) = false := by simp; omega
            obtain ⟨b2, hb2⟩ : ∃ b, Lib.isDigitU (r : Int) = b := ⟨_, rfl⟩
            have HB2 := Lib.hid hb2
            clear hb2
            cases b2
            · clear hnm
              as_aux_lemma =>
                go_wp2_with (first | (go_at_call 51; refine (sLetter_calls r false HBL.out _ hTi.out hrb2).mono ?_; rintro e w5 ⟨rfl, hB⟩; have HB := Lib.hid (HI.out.below2 hB); clear hB) | (go_at_call 52; refine (isDigit_tab _ _ (HT.out.below hw HB.out.below) (by omega) hrb2).mono ?_; rintro e w6 ⟨rfl, hB⟩; rw [HB2.out]; have HB6 := Lib.hid (HB.out.below2 hB); clear hB))
                go_ret
                exact name_no HB6.out.below
            · have hnext : Hid (NmAt s (pos + wd) (rs ++ [r])) := hnm.out H1.out (by rw [if_neg h0]; unfold idc; rw [HB2.out]; simp)
              clear h0 hnm
              go_wp2_with (first | (go_at_call 51; refine (sLetter_calls r false HBL.out _ hTi.out hrb2).mono ?_; rintro e w5 ⟨rfl, hB⟩; have HB := Lib.hid (HI.out.below2 hB); clear hB) | (go_at_call 52; refine (isDigit_tab _ _ (HT.out.below hw HB.out.below) (by omega) hrb2).mono ?_; rintro e w6 ⟨rfl, hB⟩; rw [HB2.out]; have HB6 := Lib.hid (HB.out.below2 hB); clear hB))
              go_roundg (s.size - (pos + wd))
              case measure => have := HWD.out; have := hp; omega
              case rel => exact ⟨pos + wd, _, rfl, HB6.out, hnext.out⟩
    · have hnx : ∀ ty, (Instr.next (.pointer (some ⟨w.heap.size, 0, none⟩)) true ty).run Tryd.prog wr = _ := fun ty => Lib.run_next_end_at wr w.heap.size s pos ty hI.out.it hp
      by_cases h0 : s.size = 0
      · have e0 := size_zeroI h0
        subst e0
        clear h0
        go_wp2_with fail
        go_ret
        exact name_no hI.out.below
      · obtain ⟨hne, hne2⟩ := hn0.out h0
        have HP := Lib.hid hp
        have H0 := Lib.hid h0
        clear hp h0
        go_wp2_with (go_at_call 53; refine (isKeyword_calls s _ hs).mono ?_; rintro e w6 ⟨⟨b6, rfl, hb6⟩, rfl⟩; have HB6 := Lib.hid hb6; clear hb6)
        go_ret
        exact name_mk _ hI.out.below fun hb => nm_end hN.out HP.out H0.out (HB6.out (by simpa using hb))
end Go.Proofs.YtnehkpoggkfikaaDoor
