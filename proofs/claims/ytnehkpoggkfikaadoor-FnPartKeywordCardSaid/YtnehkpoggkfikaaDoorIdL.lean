/-
  Letters of names, walked; the scanner at a character of a name. Conditions: each law's own.
-/
import Derived.Test.YtnehkpoggkfikaaDoorIdK
namespace Go.Proofs.YtnehkpoggkfikaaDoor
open Go.RowKit
set_option linter.unusedVariables false

theorem isLet_yes (c : Nat) (w : World) (hc : c < 2147483648) (h : aLet c = true) : Calls Tryd.prog 99 #[.int .i32 (c : Int)] w fun e w' => e = .returned (.bool true) ∧ w = w' := by
  unfold aLet at h
  simp only [Bool.or_eq_true, decide_eq_true_eq] at h
  rcases h with ⟨h1, h2⟩ | rfl
  · have g1 : (97 : Int) ≤ (low c : Int) := by omega
    have g2 : (low c : Int) ≤ 122 := by omega
    clear h1 h2
    go_enter Tryd.func99, Tryd.ntmps99
    go_wp2_with (go_at_call 93; refine (lower_calls c _ hc).mono ?_; rintro e w1 ⟨rfl, rfl⟩)
    go_ret
    exact ⟨rfl, rfl⟩
  · have g0 : low 95 = 127 := by decide +kernel
    go_enter Tryd.func99, Tryd.ntmps99
    go_wp2_with (go_at_call 93; refine (lower_calls 95 _ hc).mono ?_; rintro e w1 ⟨rfl, rfl⟩; rw [g0])
    go_ret
    exact ⟨rfl, rfl⟩
theorem isLet_no (c : Nat) (w : World) (hc : c < 2147483648) (h : aLet c = false) : Calls Tryd.prog 99 #[.int .i32 (c : Int)] w fun e w' => e = .returned (.bool false) ∧ w = w' := by
  unfold aLet at h
  simp only [Bool.or_eq_false_iff, decide_eq_false_iff_not] at h
  obtain ⟨h1, h2⟩ := h
  have t95 : ((c : Int) == 95) = false := by simp; omega
  by_cases h3 : 97 ≤ low c
  · have g1 : (97 : Int) ≤ (low c : Int) := by omega
    have g2 : decide ((low c : Int) ≤ 122) = false := by simp; omega
    clear h1 h2 h3
    go_enter Tryd.func99, Tryd.ntmps99
    go_wp2_with (go_at_call 93; refine (lower_calls c _ hc).mono ?_; rintro e w1 ⟨rfl, rfl⟩)
    go_ret
    exact ⟨rfl, rfl⟩
  · have g1 : decide ((97 : Int) ≤ (low c : Int)) = false := by simp; omega
    clear h1 h2 h3
    go_enter Tryd.func99, Tryd.ntmps99
    go_wp2_with (go_at_call 93; refine (lower_calls c _ hc).mono ?_; rintro e w1 ⟨rfl, rfl⟩)
    go_ret
    exact ⟨rfl, rfl⟩
theorem isLet_end (w : World) : Calls Tryd.prog 99 #[.int .i32 (-1)] w fun e w' => e = .returned (.bool false) ∧ w = w' := by
  go_enter Tryd.func99, Tryd.ntmps99
  go_wp2_with (go_at_call 93; refine (lower_end _).mono ?_; rintro e w1 ⟨rfl, rfl⟩)
  go_ret
  exact ⟨rfl, rfl⟩

/-- What atIdentChar gives. -/
def IdcPost (b : Bool) (w : World) (e : Ending) (w' : World) : Prop := e = .returned (.bool b) ∧ Below w.heap.size w w'
set_option maxRecDepth 100000 in
set_option maxHeartbeats 1000000 in
theorem atIdent_yes (E : Env) (p : List UInt8) (c : Nat) (t : List Nat) (n : Nat) (w : World) (h : SA w E p (c :: t) n) (hT : Tabs w) (hz : 12 ≤ w.heap.size) (hc : c < 1114112) (hi : idc c = true) :
    Calls Tryd.prog 101 #[.pointer (some ⟨E.c.sb, 0, none⟩), .bool false] w (IdcPost true w) := by
  have h9 := h.ch
  simp only [chOf] at h9
  have H := Lib.hid h
  have HT := Lib.hid hT
  have hcell : Hid (∀ w1 : World, Below w.heap.size w w1 → w1.cell? ⟨E.c.sb, 9, none⟩ = some (.int .i32 (c : Int))) := fun w1 hB => (H.out.below hB).1.ch
  have hcb : -2147483648 ≤ (c : Int) ∧ (c : Int) ≤ 2147483647 := by omega
  clear h hT
  unfold idc ltr at hi
  obtain ⟨b1, hb1⟩ : ∃ b, Lib.isLetterU (c : Int) = b := ⟨_, rfl⟩
  rw [hb1] at hi
  have HB1 := Lib.hid hb1
  clear hb1
  cases b1
  · by_cases h95 : c = 95
    · subst h95
      have t95 : (((95 : Nat) : Int) == 95) = true := by decide
      clear hi
      go_enter Tryd.func101, Tryd.ntmps101
      go_wp2_with (go_at_call 72; refine (isLetter_tab _ _ HT.out hcb.1 hcb.2).mono ?_; rintro e w1 ⟨rfl, hB⟩; rw [HB1.out]; have h91 := hcell.out w1 hB; have HB := Lib.hid hB; clear hB)
      go_ret
      exact ⟨rfl, HB.out⟩
    · have t95 : ((c : Int) == 95) = false := by simp; omega
      have hd : Hid (Lib.isDigitU (c : Int) = true) := by show _ = true; simpa [h95] using hi
      clear hi h95
      go_enter Tryd.func101, Tryd.ntmps101
      go_wp2_with (go_at_call 72; refine (isLetter_tab _ _ HT.out hcb.1 hcb.2).mono ?_; rintro e w1 ⟨rfl, hB⟩; rw [HB1.out]; have h91 := hcell.out w1 hB; have HB := Lib.hid hB; clear hB)
      go_at_call 52
      refine (isDigit_tab _ _ (HT.out.below hz HB.out) hcb.1 hcb.2).mono ?_
      rintro e w2 ⟨rfl, hB2⟩
      rw [hd.out]
      have HB2 : Hid (Below w.heap.size w w2) := HB.out.trans (hB2.mono HB.out.size)
      clear hB2
      go_wp2_with fail
      go_ret
      exact ⟨rfl, HB2.out⟩
  · clear hi
    go_enter Tryd.func101, Tryd.ntmps101
    go_wp2_with (go_at_call 72; refine (isLetter_tab _ _ HT.out hcb.1 hcb.2).mono ?_; rintro e w1 ⟨rfl, hB⟩; rw [HB1.out]; have HB := Lib.hid hB; clear hB)
    go_ret
    exact ⟨rfl, HB.out⟩
theorem no_end : Lib.isLetterU (-1) = false ∧ Lib.isDigitU (-1) = false := by decide +kernel
theorem no_small {c : Nat} (hc : c < 128) (h : aId c = false) : Lib.isLetterU (c : Int) = false ∧ Lib.isDigitU (c : Int) = false ∧ c ≠ 95 := by
  have := aId_small ⟨c, hc⟩
  simp only at this
  rw [h] at this
  unfold idc ltr at this
  have h2 := this.symm
  simp only [Bool.or_eq_false_iff, decide_eq_false_iff_not] at h2
  exact ⟨h2.1.1, h2.2, h2.1.2⟩
set_option maxRecDepth 100000 in
set_option maxHeartbeats 1000000 in
theorem atIdent_no (E : Env) (p : List UInt8) (l : List Nat) (n : Nat) (w : World) (h : SA w E p l n) (hT : Tabs w) (hz : 12 ≤ w.heap.size) (hl : Bhd l) :
    Calls Tryd.prog 101 #[.pointer (some ⟨E.c.sb, 0, none⟩), .bool false] w (IdcPost false w) := by
  have hch : ∃ z : Int, chOf l = z ∧ z < 128 ∧ -1 ≤ z ∧ Lib.isLetterU z = false ∧ Lib.isDigitU z = false ∧ (z == 95) = false := by
    cases l with
    | nil => exact ⟨-1, rfl, by omega, by omega, no_end.1, no_end.2, by decide⟩
    | cons c t =>
      obtain ⟨h1, h2⟩ := hl c t rfl
      obtain ⟨a, b, d⟩ := no_small h1 h2
      exact ⟨c, rfl, by omega, by omega, a, b, by simp; omega⟩
  obtain ⟨z, hz0, z1, z2, hL, hD, t95⟩ := hch
  have h9 := h.ch
  rw [hz0] at h9
  have hcell : Hid (∀ w1 : World, Below w.heap.size w w1 → w1.cell? ⟨E.c.sb, 9, none⟩ = some (.int .i32 z)) := fun w1 hB => by have := (h.below hB).1.ch; rw [hz0] at this; exact this
  have HT := Lib.hid hT
  have HL := Lib.hid hL
  have HD := Lib.hid hD
  have t128 : decide ((128 : Int) ≤ z) = false := by simp; omega
  clear h hT hz0 hl hL hD
  go_enter Tryd.func101, Tryd.ntmps101
  go_wp2_with (go_at_call 72; refine (isLetter_tab _ _ HT.out (by omega) (by omega)).mono ?_; rintro e w1 ⟨rfl, hB⟩; rw [HL.out]; have h91 := hcell.out w1 hB; have HB := Lib.hid hB; clear hB)
  go_at_call 52
  refine (isDigit_tab _ _ (HT.out.below hz HB.out) (by omega) (by omega)).mono ?_
  rintro e w2 ⟨rfl, hB2⟩
  rw [HD.out]
  have HB2 : Hid (Below w.heap.size w w2) := HB.out.trans (hB2.mono HB.out.size)
  have h92 := hcell.out w2 HB2.out
  clear hB2
  go_wp2_with fail
  go_ret
  exact ⟨rfl, HB2.out⟩
end Go.Proofs.YtnehkpoggkfikaaDoor
