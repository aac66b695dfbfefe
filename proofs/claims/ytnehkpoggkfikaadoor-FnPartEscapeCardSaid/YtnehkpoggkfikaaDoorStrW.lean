/-
  The walk through stdString. Conditions: the law's own.
-/
import Derived.Test.YtnehkpoggkfikaaDoorEscape
namespace Go.Proofs.YtnehkpoggkfikaaDoor
open Go.RowKit
set_option linter.unusedVariables false

theorem StrRun.cast {l : List Nat} {m e m' e' : Nat} {ok ok' : Bool} (h : StrRun l m e ok) (hm : m = m') (he : e = e') (ho : ok = ok') : StrRun l m' e' ok' := by subst hm he ho; exact h
/-- The way through a string: k characters read. -/
def StrTo (p0 : List UInt8) (l : List Nat) (k : Nat) (p : List UInt8) (l' : List Nat) (e : Nat) (ok : Bool) : Prop :=
  k ≤ l.length ∧ p = p0 ++ encs (l.take k) ∧ l' = l.drop k ∧ e ≤ k ∧ ∀ m e2 ok2, StrRun l' m e2 ok2 → StrRun l (k + m) (e + e2) (ok && ok2)
theorem strTo_start (p0 : List UInt8) (l : List Nat) : StrTo p0 l 0 p0 l 0 true := ⟨by omega, by simp [encs], rfl, Nat.le_refl _, fun m e2 ok2 h => h.cast (by omega) (by omega) (by simp)⟩
theorem take_more (l : List Nat) (k j : Nat) : encs (l.take (k + j)) = encs (l.take k) ++ encs ((l.drop k).take j) := by rw [List.take_add, encs_append]
theorem strTo_esc {p0 : List UInt8} {l : List Nat} {k : Nat} {p : List UInt8} {l2 : List Nat} {e : Nat} {ok : Bool} (h : StrTo p0 l k p (92 :: l2) e ok) {j : Nat} {g : Bool} (hj : escE 34 l2 = (j, g)) :
    StrTo p0 l (k + (1 + j)) (p ++ enc 92 ++ encs (l2.take j)) (l2.drop j) (e + er g) (ok && g) := by
  obtain ⟨h1, h2, h3, h4, h5⟩ := h
  have hle := escE_le 34 l2
  rw [hj] at hle
  have hlen := congrArg List.length h3
  simp only [List.length_cons, List.length_drop] at hlen
  have her : er g ≤ 1 := by unfold er; split <;> omega
  refine ⟨by simp only at hle; omega, ?_, ?_, by omega, fun m e2 ok2 h => ?_⟩
  · rw [take_more, ← h3, h2, Nat.add_comm 1 j]; simp [encs]
  · rw [← List.drop_drop, ← h3, Nat.add_comm 1 j]; simp
  · have hr := StrRun.esc l2 m e2 ok2 (by rw [hj]; exact h)
    rw [hj] at hr
    exact (h5 _ _ _ hr).cast (by simp only; omega) (by simp only; omega) (by rw [Bool.and_assoc])
theorem strTo_step {p0 : List UInt8} {l : List Nat} {k : Nat} {p : List UInt8} {c : Nat} {l2 : List Nat} {e : Nat} {ok : Bool} (h : StrTo p0 l k p (c :: l2) e ok) (c1 : c ≠ 34) (c2 : c ≠ 92) (c3 : c ≠ 10) :
    StrTo p0 l (k + 1) (p ++ enc c) l2 e ok := by
  obtain ⟨h1, h2, h3, h4, h5⟩ := h
  have hlen := congrArg List.length h3
  simp only [List.length_cons, List.length_drop] at hlen
  refine ⟨by omega, ?_, ?_, by omega, fun m e2 ok2 h => (h5 _ _ _ (StrRun.step c l2 m e2 ok2 c1 c2 c3 h)).cast (by omega) rfl rfl⟩
  · rw [take_more, ← h3, h2]; simp [encs]
  · rw [← List.drop_drop, ← h3]; simp
/-- A string read. -/
def StrDone (p0 : List UInt8) (l : List Nat) (p : List UInt8) (l' : List Nat) (e : Nat) (ok : Bool) : Prop := ∃ m, StrRun l m e ok ∧ m ≤ l.length ∧ p = p0 ++ encs (l.take m) ∧ l' = l.drop m
theorem strTo_close {p0 : List UInt8} {l : List Nat} {k : Nat} {p : List UInt8} {l2 : List Nat} {e : Nat} {ok : Bool} (h : StrTo p0 l k p (34 :: l2) e ok) : StrDone p0 l (p ++ enc 34) l2 e ok := by
  obtain ⟨h1, h2, h3, h4, h5⟩ := h
  have hlen := congrArg List.length h3
  simp only [List.length_cons, List.length_drop] at hlen
  refine ⟨k + 1, (h5 _ _ _ (StrRun.close l2)).cast rfl rfl (by simp), by omega, ?_, ?_⟩
  · rw [take_more, ← h3, h2]; simp [encs]
  · rw [← List.drop_drop, ← h3]; simp
theorem strTo_nl {p0 : List UInt8} {l : List Nat} {k : Nat} {p : List UInt8} {l2 : List Nat} {e : Nat} {ok : Bool} (h : StrTo p0 l k p (10 :: l2) e ok) : StrDone p0 l p (10 :: l2) (e + 1) false := by
  obtain ⟨h1, h2, h3, h4, h5⟩ := h
  exact ⟨k, (h5 _ _ _ (StrRun.nl l2)).cast rfl rfl (by simp), h1, h2, h3⟩
theorem strTo_eof {p0 : List UInt8} {l : List Nat} {k : Nat} {p : List UInt8} {e : Nat} {ok : Bool} (h : StrTo p0 l k p [] e ok) : StrDone p0 l p [] (e + 1) false := by
  obtain ⟨h1, h2, h3, h4, h5⟩ := h
  exact ⟨k, (h5 _ _ _ StrRun.eof).cast rfl rfl (by simp), h1, h2, h3⟩

/-- What stdString gives. -/
def StrPost (E : Env) (p0 : List UInt8) (l : List Nat) (mode l0 k0 : Int) (w : World) (en : Ending) (w' : World) : Prop :=
  en = .returned (.tuple #[]) ∧ TK E w w' ∧ ∃ p l' e ok, StrDone p0 l p l' e ok ∧ LitSA w' E p l' e mode l0 k0 4 (!ok)

set_option maxRecDepth 100000 in
set_option maxHeartbeats 4000000 in
theorem stdString_calls (E : Env) (l : List Nat) (mode l0 k0 : Int) (w : World) (h : SA w E [] (34 :: l) 0) (ht : Tail w E.c.sb mode l0 k0) :
    Calls Tryd.prog 60 #[.pointer (some ⟨E.c.sb, 0, none⟩)] w (StrPost E (enc 34) l mode l0 k0 w) := by
  have hlen : Hid (l.length ≤ 2000) := by have := h.len; simp at this; show l.length ≤ 2000; omega
  have H := Lib.hid h
  have HT := Lib.hid ht
  clear h ht
  go_enter Tryd.func60, Tryd.ntmps60
  go_wp2_with (go_at_call 57; refine (next_sa E [] 34 l 0 _ H.out).mono ?_; rintro en w1 ⟨rfl, h1, f1⟩; have h1 := Lib.hid h1; have f1 := Lib.hid f1)
  go_loopg [2] (l.length + 5) (fun g okv wr => ∃ (ok : Bool) (k e : Nat) (p' : List UInt8) (l' : List Nat), okv = .bool ok ∧ g = l'.length + 5 ∧ SA wr E p' l' e ∧ Tail wr E.c.sb mode l0 k0 ∧ GF E w wr ∧ Hid (StrTo (enc 34) l k p' l' e ok))
  case atStart => exact ⟨true, 0, 0, _, l, rfl, rfl, h1.out, HT.out.gf f1.out, f1.out, strTo_start _ _⟩
  case round =>
    obtain ⟨ok, k, e, p', l', rfl, rfl, hS, hT, hF, hR⟩ := hrel
    have hch := hS.ch
    have HS := Lib.hid hS
    have HT2 := Lib.hid hT
    have HF := Lib.hid hF
    have he : Hid (e < 100000) := by have := hR.out.1; have := hR.out.2.2.2.1; have := hlen.out; show e < 100000; omega
    clear hS hT hF
    cases l' with
    | nil =>
      simp only [chOf] at hch
      have HD := Lib.hid (strTo_eof hR.out)
      go_wp2_with (first | (go_at_call 79; refine (errorAtf_sa E p' [] e _ mode l0 k0 _ _ _ _ _ HS.out he.out HT2.out).mono ?_; rintro en w2 ⟨rfl, hS2, hF2⟩; have hS2 := Lib.hid hS2; have hT3 := Lib.hid (HT2.out.gf hF2); have hF2 := Lib.hid hF2) | (go_at_call 80; refine (setLit_sa E p' [] (e + 1) mode l0 k0 _ _ _ hS2.out hT3.out).mono ?_; rintro en w3 ⟨rfl, hL, hK⟩))
      go_end0
      exact ⟨rfl, (HF.out.trans hF2.out).tk.trans hK, _, _, _, _, HD.out, hL⟩
    | cons c l2 =>
      simp only [chOf] at hch
      by_cases c1 : c = 34
      · subst c1
        have HD := Lib.hid (strTo_close hR.out)
        go_wp2_with (first | (go_at_call 57; refine (next_sa E p' 34 l2 e _ HS.out).mono ?_; rintro en w2 ⟨rfl, hS2, hF2⟩; have hS2 := Lib.hid hS2; have hT3 := Lib.hid (HT2.out.gf hF2); have hF2 := Lib.hid hF2) | (go_at_call 80; refine (setLit_sa E _ l2 e mode l0 k0 _ _ _ hS2.out hT3.out).mono ?_; rintro en w3 ⟨rfl, hL, hK⟩))
        go_end0
        exact ⟨rfl, (HF.out.trans hF2.out).tk.trans hK, _, _, _, _, HD.out, hL⟩
      have t1 : ((c : Int) == 34) = false := by simp; omega
      by_cases c2 : c = 92
      · subst c2
        obtain ⟨j, g, hj⟩ : ∃ j g, escE 34 l2 = (j, g) := ⟨_, _, rfl⟩
        have hnx := Lib.hid (strTo_esc hR.out hj)
        have hj := Lib.hid hj
        clear c1
        go_wp2_with (go_at_call 57; refine (next_sa E p' 92 l2 e _ HS.out).mono ?_; rintro en w2 ⟨rfl, hS2, hF2⟩; have hS2 := Lib.hid hS2; have hT3 := Lib.hid (HT2.out.gf hF2); have hF2 := Lib.hid hF2)
        go_at_call 90
        refine (escape_is E 34 _ l2 e j g _ (.inl rfl) he.out hj.out hS2.out).mono ?_
        rintro en w3 ⟨rfl, hS3, hF3⟩
        have hS3 := Lib.hid hS3
        have hT4 := Lib.hid (hT3.out.gf hF3)
        have hF3 := Lib.hid hF3
        cases g
        · go_wp2_with fail
          go_roundg ((l2.drop j).length + 5)
          case measure => simp; omega
          case rel => exact ⟨false, _, _, _, _, rfl, rfl, hS3.out, hT4.out, (HF.out.trans hF2.out).trans hF3.out, Lib.hid (by simpa using hnx.out)⟩
        · go_wp2_with fail
          go_roundg ((l2.drop j).length + 5)
          case measure => simp; omega
          case rel => exact ⟨ok, _, _, _, _, rfl, rfl, hS3.out, hT4.out, (HF.out.trans hF2.out).trans hF3.out, Lib.hid (by simpa using hnx.out)⟩
      have t2 : ((c : Int) == 92) = false := by simp; omega
      by_cases c3 : c = 10
      · subst c3
        have HD := Lib.hid (strTo_nl hR.out)
        clear c1 c2
        go_wp2_with (first | (go_at_call 91; refine (errorf_sa E p' (10 :: l2) e _ _ _ _ _ HS.out he.out).mono ?_; rintro en w2 ⟨rfl, hS2, hF2⟩; have hS2 := Lib.hid hS2; have hT3 := Lib.hid (HT2.out.gf hF2); have hF2 := Lib.hid hF2) | (go_at_call 80; refine (setLit_sa E p' (10 :: l2) (e + 1) mode l0 k0 _ _ _ hS2.out hT3.out).mono ?_; rintro en w3 ⟨rfl, hL, hK⟩))
        go_end0
        exact ⟨rfl, (HF.out.trans hF2.out).tk.trans hK, _, _, _, _, HD.out, hL⟩
      have t3 : ((c : Int) == 10) = false := by simp; omega
      have t4 : ¬ (c : Int) < 0 := by omega
      have hnx := Lib.hid (strTo_step hR.out c1 c2 c3)
      clear c1 c2 c3
      go_wp2_with (go_at_call 57; refine (next_sa E p' c l2 e _ HS.out).mono ?_; rintro en w2 ⟨rfl, hS2, hF2⟩; have hS2 := Lib.hid hS2; have hT3 := Lib.hid (HT2.out.gf hF2); have hF2 := Lib.hid hF2)
      go_roundg (l2.length + 5)
      case measure => simp
      case rel => exact ⟨ok, _, _, _, _, rfl, rfl, hS2.out, hT3.out, HF.out.trans hF2.out, hnx.out⟩
end Go.Proofs.YtnehkpoggkfikaaDoor
