/-
  The walk through escape: what is read behind a backslash. Conditions: each law's own. (The classes' theorems printed by genesc.py.)
-/
import Derived.Test.YtnehkpoggkfikaaDoorSA
import Derived.Deep.RegionHeld3
namespace Go.Proofs.YtnehkpoggkfikaaDoor
open Go.RowKit
set_option linter.unusedVariables false

/-- What escape gives: so many characters read, an error told or none. -/
def EscPost (E : Env) (q : Nat) (p : List UInt8) (l : List Nat) (e : Nat) (w : World) (en : Ending) (w' : World) : Prop :=
  en = .returned (.bool (escE q l).2) ∧ SA w' E (p ++ encs (l.take (escE q l).1)) (l.drop (escE q l).1) (e + er (escE q l).2) ∧ GF E w w'
theorem escPost_end {E : Env} {q : Nat} {p p' : List UInt8} {l l' : List Nat} {e e' k : Nat} {ok : Bool} {w w' : World} (h : escE q l = (k, ok)) (hp : p' = p ++ encs (l.take k)) (hl : l' = l.drop k) (he : e' = e + er ok) (hS : SA w' E p' l' e') (hF : GF E w w') : EscPost E q p l e w (.returned (.bool ok)) w' := by
  subst hp hl he
  unfold EscPost
  rw [h]
  exact ⟨rfl, hS, hF⟩

/-- The way through an escape's digits: d of them are to come. -/
def DigTo (base mx n : Nat) (p0 : List UInt8) (L : List Nat) (d X : Nat) (p : List UInt8) (l : List Nat) : Prop :=
  d ≤ n ∧ X < base ^ (n - d) ∧ l = L.drop (n - d) ∧ n - d ≤ L.length ∧ p = p0 ++ encs (L.take (n - d)) ∧ digsE base mx n 0 L = ((digsE base mx d X l).1 + (n - d), (digsE base mx d X l).2)
theorem digTo_start (base mx n : Nat) (p0 : List UInt8) (L : List Nat) : DigTo base mx n p0 L n 0 p0 L :=
  ⟨Nat.le_refl _, by simp, by simp, by simp, by simp [encs], by simp⟩
theorem digTo_step {base mx n : Nat} {p0 : List UInt8} {L : List Nat} {d X : Nat} {p : List UInt8} {c : Nat} {l : List Nat} (h : DigTo base mx n p0 L (d + 1) X p (c :: l)) (hc : digB base c < base) :
    DigTo base mx n p0 L d (X * base + digB base c) (p ++ enc c) l := by
  obtain ⟨h1, h2, h3, h4, h5, h6⟩ := h
  have e : n - d = n - (d + 1) + 1 := by omega
  have hlen := congrArg List.length h3
  simp only [List.length_cons, List.length_drop] at hlen
  have hlt : n - (d + 1) < L.length := by omega
  have hg : L.drop (n - (d + 1)) = c :: l := h3.symm
  rw [List.drop_eq_getElem_cons hlt] at hg
  injection hg with g1 g2
  refine ⟨by omega, ?_, ?_, by omega, ?_, ?_⟩
  · rw [e, Nat.pow_succ]
    calc X * base + digB base c < X * base + base := by omega
      _ = (X + 1) * base := by rw [Nat.add_mul, Nat.one_mul]
      _ ≤ base ^ (n - (d + 1)) * base := Nat.mul_le_mul_right _ h2
  · rw [e]; exact g2.symm
  · rw [e, List.take_succ_eq_append_getElem hlt, encs_append, h5, g1]; simp [encs]
  · rw [h6]
    conv => lhs; unfold digsE
    rw [if_pos hc, e]
    simp only [Prod.mk.injEq, and_true]
    omega
theorem digTo_stop {base mx n : Nat} {p0 : List UInt8} {L : List Nat} {d X : Nat} {p : List UInt8} {c : Nat} {l : List Nat} (h : DigTo base mx n p0 L (d + 1) X p (c :: l)) (hc : ¬ digB base c < base) : ∃ k, digsE base mx n 0 L = (k, false) ∧ p = p0 ++ encs (L.take k) ∧ c :: l = L.drop k := by
  obtain ⟨h1, h2, h3, h4, h5, h6⟩ := h
  refine ⟨n - (d + 1), ?_, h5, h3⟩
  rw [h6]; unfold digsE; rw [if_neg hc]; simp
theorem digTo_eof {base mx n : Nat} {p0 : List UInt8} {L : List Nat} {d X : Nat} {p : List UInt8} (h : DigTo base mx n p0 L (d + 1) X p []) : ∃ k, digsE base mx n 0 L = (k, true) ∧ p = p0 ++ encs (L.take k) ∧ [] = L.drop k := by
  obtain ⟨h1, h2, h3, h4, h5, h6⟩ := h
  refine ⟨n - (d + 1), ?_, h5, h3⟩
  rw [h6]; unfold digsE; simp
theorem digTo_end {base mx n : Nat} {p0 : List UInt8} {L : List Nat} {X : Nat} {p : List UInt8} {l : List Nat} (h : DigTo base mx n p0 L 0 X p l) : ∃ k, digsE base mx n 0 L = (k, escOk mx X) ∧ p = p0 ++ encs (L.take k) ∧ l = L.drop k ∧ X < base ^ n := by
  obtain ⟨h1, h2, h3, h4, h5, h6⟩ := h
  refine ⟨n, ?_, by simpa using h5, by simpa using h3, by simpa using h2⟩
  rw [h6]; simp [digsE]
theorem digTo_lt {base mx n : Nat} {p0 : List UInt8} {L : List Nat} {d X : Nat} {p : List UInt8} {l : List Nat} (h : DigTo base mx n p0 L (d + 1) X p l) (hb : base = 8 ∨ base = 16) (hn : n ≤ 8) : X < 268435456 := by
  obtain ⟨h1, h2, h3, h4, h5, h6⟩ := h
  have h7 : base ^ (n - (d + 1)) ≤ 16 ^ 7 := Nat.le_trans (Nat.pow_le_pow_left (by omega) _) (Nat.pow_le_pow_right (by decide) (by omega))
  omega
/-- An escape that begins with a letter: its digits stand behind it. -/
theorem escC_more {q c n mx : Nat} {l : List Nat} {k : Nat} {ok : Bool} (h : escE q (c :: l) = ((digsE 16 mx n 0 l).1 + 1, (digsE 16 mx n 0 l).2)) (hd : digsE 16 mx n 0 l = (k, ok)) : escE q (c :: l) = (k + 1, ok) := by rw [h, hd]

set_option maxRecDepth 100000 in
set_option maxHeartbeats 2000000 in
theorem escape_simple (E : Env) (q : Nat) (p : List UInt8) (c : Nat) (l : List Nat) (e : Nat) (w : World) (hq : q = 34 ∨ q = 39) (hc : simpleEsc q c) (h : SA w E p (c :: l) e) :
    Calls Tryd.prog 90 #[.pointer (some ⟨E.c.sb, 0, none⟩), .int .i32 (q : Int)] w (EscPost E q p (c :: l) e w) := by
  have hE := Lib.hid (escE_simple q c hc l)
  have hch := h.ch
  have H := Lib.hid h
  simp only [chOf] at hch
  clear h
  have hcc : c = q ∨ c = 97 ∨ c = 98 ∨ c = 102 ∨ c = 110 ∨ c = 114 ∨ c = 116 ∨ c = 118 ∨ c = 92 := hc
  clear hc
  rcases hq with rfl | rfl <;> rcases hcc with rfl | rfl | rfl | rfl | rfl | rfl | rfl | rfl | rfl
  all_goals
    go_enter Tryd.func90, Tryd.ntmps90
    go_wp2_with (go_at_call 57; refine (next_sa E p _ l e _ H.out).mono ?_; rintro en w2 ⟨rfl, hS, hF⟩)
    go_ret
    exact escPost_end hE.out (by simp [encs]) (by simp) (by simp [er]) hS hF

set_option maxRecDepth 100000 in
set_option maxHeartbeats 2000000 in
theorem escape_eof (E : Env) (q : Nat) (p : List UInt8) (e : Nat) (w : World) (hq : q = 34 ∨ q = 39) (h : SA w E p [] e) :
    Calls Tryd.prog 90 #[.pointer (some ⟨E.c.sb, 0, none⟩), .int .i32 (q : Int)] w (EscPost E q p [] e w) := by
  have hch := h.ch
  have H := Lib.hid h
  simp only [chOf] at hch
  clear h
  rcases hq with rfl | rfl
  all_goals
    go_enter Tryd.func90, Tryd.ntmps90
    go_wp2_with fail
    go_ret
    exact escPost_end (k := 0) rfl (by simp [encs]) (by simp) (by simp [er]) H.out (GF.refl E w)

set_option maxRecDepth 100000 in
set_option maxHeartbeats 2000000 in
theorem escape_none (E : Env) (q : Nat) (p : List UInt8) (c : Nat) (l : List Nat) (e : Nat) (w : World) (hq : q = 34 ∨ q = 39) (h1 : ¬ simpleEsc q c) (h2 : ¬ (48 ≤ c ∧ c ≤ 55)) (h3 : c ≠ 120) (h4 : c ≠ 117) (h5 : c ≠ 85) (hn : e < 100000) (h : SA w E p (c :: l) e) :
    Calls Tryd.prog 90 #[.pointer (some ⟨E.c.sb, 0, none⟩), .int .i32 (q : Int)] w (EscPost E q p (c :: l) e w) := by
  have hE : Hid (escE q (c :: l) = (0, false)) := by
    show _ = _
    rw [escE_cons]; unfold escC; rw [if_neg h1, if_neg h2, if_neg h3, if_neg h4, if_neg h5]
  have hch := h.ch
  have H := Lib.hid h
  simp only [chOf] at hch
  unfold simpleEsc at h1
  clear h
  have t97 : ((c : Int) == 97) = false := by simp; omega
  have t98 : ((c : Int) == 98) = false := by simp; omega
  have t102 : ((c : Int) == 102) = false := by simp; omega
  have t110 : ((c : Int) == 110) = false := by simp; omega
  have t114 : ((c : Int) == 114) = false := by simp; omega
  have t116 : ((c : Int) == 116) = false := by simp; omega
  have t118 : ((c : Int) == 118) = false := by simp; omega
  have t92 : ((c : Int) == 92) = false := by simp; omega
  have t48 : ((c : Int) == 48) = false := by simp; omega
  have t49 : ((c : Int) == 49) = false := by simp; omega
  have t50 : ((c : Int) == 50) = false := by simp; omega
  have t51 : ((c : Int) == 51) = false := by simp; omega
  have t52 : ((c : Int) == 52) = false := by simp; omega
  have t53 : ((c : Int) == 53) = false := by simp; omega
  have t54 : ((c : Int) == 54) = false := by simp; omega
  have t55 : ((c : Int) == 55) = false := by simp; omega
  have t120 : ((c : Int) == 120) = false := by simp; omega
  have t117 : ((c : Int) == 117) = false := by simp; omega
  have t85 : ((c : Int) == 85) = false := by simp; omega
  have tq : ((c : Int) == (q : Int)) = false := by simp; omega
  have t0 : ¬ ((c : Int) < 0) := by omega
  clear h1 h2 h3 h4 h5
  rcases hq with rfl | rfl
  all_goals
    simp only [Int.cast_ofNat_Int] at tq
    go_enter Tryd.func90, Tryd.ntmps90
    go_wp2_with (go_at_call 91; refine (errorf_sa E p (c :: l) e _ _ _ _ _ H.out hn).mono ?_; rintro en w2 ⟨rfl, hS, hF⟩)
    go_ret
    exact escPost_end hE.out (by simp [encs]) (by simp) (by simp [er]) hS hF
end Go.Proofs.YtnehkpoggkfikaaDoor
