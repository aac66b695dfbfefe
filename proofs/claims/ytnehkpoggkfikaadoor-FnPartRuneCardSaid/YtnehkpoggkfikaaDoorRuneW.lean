/-
  The walk through rune. Conditions: the law's own.
-/
import Derived.Test.YtnehkpoggkfikaaDoorStrW
namespace Go.Proofs.YtnehkpoggkfikaaDoor
open Go.RowKit
set_option linter.unusedVariables false

theorem RuneRun.cast {l : List Nat} {n : Nat} {ok : Bool} {m e m' e' : Nat} {okr okr' : Bool} (h : RuneRun l n ok m e okr) (hm : m = m') (he : e = e') (ho : okr = okr') : RuneRun l n ok m' e' okr' := by subst hm he ho; exact h
/-- The way through a rune: k characters read, n units. -/
def RuneTo (p0 : List UInt8) (l : List Nat) (k : Nat) (p : List UInt8) (l' : List Nat) (e : Nat) (n : Nat) (ok : Bool) : Prop :=
  k ≤ l.length ∧ p = p0 ++ encs (l.take k) ∧ l' = l.drop k ∧ e ≤ k ∧ n ≤ k ∧ ∀ m e2 okr, RuneRun l' n ok m e2 okr → RuneRun l 0 true (k + m) (e + e2) okr
theorem runeTo_start (p0 : List UInt8) (l : List Nat) : RuneTo p0 l 0 p0 l 0 0 true := ⟨by omega, by simp [encs], rfl, Nat.le_refl _, Nat.le_refl _, fun m e2 ok2 h => h.cast (by omega) (by omega) rfl⟩
theorem runeTo_esc {p0 : List UInt8} {l : List Nat} {k : Nat} {p : List UInt8} {l2 : List Nat} {e n : Nat} {ok : Bool} (h : RuneTo p0 l k p (92 :: l2) e n ok) {j : Nat} {g : Bool} (hj : escE 39 l2 = (j, g)) :
    RuneTo p0 l (k + (1 + j)) (p ++ enc 92 ++ encs (l2.take j)) (l2.drop j) (e + er g) (n + 1) (ok && g) := by
  obtain ⟨h1, h2, h3, h4, h6, h5⟩ := h
  have hle := escE_le 39 l2
  rw [hj] at hle
  have hlen := congrArg List.length h3
  simp only [List.length_cons, List.length_drop] at hlen
  have her : er g ≤ 1 := by unfold er; split <;> omega
  refine ⟨by simp only at hle; omega, ?_, ?_, by omega, by omega, fun m e2 ok2 h => ?_⟩
  · rw [take_more, ← h3, h2, Nat.add_comm 1 j]; simp [encs]
  · rw [← List.drop_drop, ← h3, Nat.add_comm 1 j]; simp
  · have hr := RuneRun.esc l2 n ok m e2 ok2 (by rw [hj]; exact h)
    rw [hj] at hr
    exact (h5 _ _ _ hr).cast (by simp only; omega) (by simp only; omega) rfl
theorem runeTo_step {p0 : List UInt8} {l : List Nat} {k : Nat} {p : List UInt8} {c : Nat} {l2 : List Nat} {e n : Nat} {ok : Bool} (h : RuneTo p0 l k p (c :: l2) e n ok) (c1 : c ≠ 39) (c2 : c ≠ 92) (c3 : c ≠ 10) :
    RuneTo p0 l (k + 1) (p ++ enc c) l2 e (n + 1) ok := by
  obtain ⟨h1, h2, h3, h4, h6, h5⟩ := h
  have hlen := congrArg List.length h3
  simp only [List.length_cons, List.length_drop] at hlen
  refine ⟨by omega, ?_, ?_, by omega, by omega, fun m e2 ok2 h => (h5 _ _ _ (RuneRun.step c l2 n ok m e2 ok2 c1 c2 c3 h)).cast (by omega) rfl rfl⟩
  · rw [take_more, ← h3, h2]; simp [encs]
  · rw [← List.drop_drop, ← h3]; simp
/-- A rune read. -/
def RuneDone (p0 : List UInt8) (l : List Nat) (p : List UInt8) (l' : List Nat) (e : Nat) (ok : Bool) : Prop := ∃ m, RuneRun l 0 true m e ok ∧ m ≤ l.length ∧ p = p0 ++ encs (l.take m) ∧ l' = l.drop m
theorem runeTo_close {p0 : List UInt8} {l : List Nat} {k : Nat} {p : List UInt8} {l2 : List Nat} {e n : Nat} {ok : Bool} (h : RuneTo p0 l k p (39 :: l2) e n ok) {e' : Nat} {ok' : Bool} (he : e' = e + er (!(ok && n != 1))) (ho : ok' = (ok && n == 1)) : RuneDone p0 l (p ++ enc 39) l2 e' ok' := by
  obtain ⟨h1, h2, h3, h4, h6, h5⟩ := h
  have hlen := congrArg List.length h3
  simp only [List.length_cons, List.length_drop] at hlen
  refine ⟨k + 1, (h5 _ _ _ (RuneRun.close l2 n ok)).cast rfl he.symm ho.symm, by omega, ?_, ?_⟩
  · rw [take_more, ← h3, h2]; simp [encs]
  · rw [← List.drop_drop, ← h3]; simp
theorem runeTo_nl {p0 : List UInt8} {l : List Nat} {k : Nat} {p : List UInt8} {l2 : List Nat} {e n : Nat} {ok : Bool} (h : RuneTo p0 l k p (10 :: l2) e n ok) {e' : Nat} (he : e' = e + er (!ok)) : RuneDone p0 l p (10 :: l2) e' false := by
  obtain ⟨h1, h2, h3, h4, h6, h5⟩ := h
  exact ⟨k, (h5 _ _ _ (RuneRun.nl l2 n ok)).cast rfl he.symm rfl, h1, h2, h3⟩
theorem runeTo_eof {p0 : List UInt8} {l : List Nat} {k : Nat} {p : List UInt8} {e n : Nat} {ok : Bool} (h : RuneTo p0 l k p [] e n ok) {e' : Nat} (he : e' = e + er (!ok)) : RuneDone p0 l p [] e' false := by
  obtain ⟨h1, h2, h3, h4, h6, h5⟩ := h
  exact ⟨k, (h5 _ _ _ (RuneRun.eof n ok)).cast rfl he.symm rfl, h1, h2, h3⟩

/-- What rune gives. -/
def RunePost (E : Env) (p0 : List UInt8) (l : List Nat) (mode l0 k0 : Int) (w : World) (en : Ending) (w' : World) : Prop :=
  en = .returned (.tuple #[]) ∧ TK E w w' ∧ ∃ p l' e ok, RuneDone p0 l p l' e ok ∧ LitSA w' E p l' e mode l0 k0 3 (!ok)

set_option maxRecDepth 100000 in
set_option maxHeartbeats 8000000 in
theorem rune_calls (E : Env) (l : List Nat) (mode l0 k0 : Int) (w : World) (h : SA w E [] (39 :: l) 0) (ht : Tail w E.c.sb mode l0 k0) :
    Calls Tryd.prog 63 #[.pointer (some ⟨E.c.sb, 0, none⟩)] w (RunePost E (enc 39) l mode l0 k0 w) := by
  have hlen : Hid (l.length ≤ 2000) := by have := h.len; simp at this; show l.length ≤ 2000; omega
  have H := Lib.hid h
  have HT := Lib.hid ht
  clear h ht
  go_enter Tryd.func63, Tryd.ntmps63
  go_wp2_with (go_at_call 57; refine (next_sa E [] 39 l 0 _ H.out).mono ?_; rintro en w1 ⟨rfl, h1, f1⟩; have h1 := Lib.hid h1; have f1 := Lib.hid f1)
  go_loopg [2, 3] (l.length + 5) (fun g okv nv wr => ∃ (ok : Bool) (k e n : Nat) (p' : List UInt8) (l' : List Nat), okv = .bool ok ∧ nv = .int .i64 n ∧ g = l'.length + 5 ∧ SA wr E p' l' e ∧ Tail wr E.c.sb mode l0 k0 ∧ GF E w wr ∧ Hid (RuneTo (enc 39) l k p' l' e n ok))
  case atStart => exact ⟨true, 0, 0, 0, _, l, rfl, rfl, rfl, h1.out, HT.out.gf f1.out, f1.out, runeTo_start _ _⟩
  case round =>
    obtain ⟨ok, k, e, n, p', l', rfl, rfl, rfl, hS, hT, hF, hR⟩ := hrel
    have hch := hS.ch
    have HS := Lib.hid hS
    have HT2 := Lib.hid hT
    have HF := Lib.hid hF
    have he : Hid (e < 100000) := by have := hR.out.1; have := hR.out.2.2.2.1; have := hlen.out; show e < 100000; omega
    have hn : (n : Int) ≤ 2000 := by have := hR.out.1; have := hR.out.2.2.2.2.1; have := hlen.out; omega
    clear hS hT hF
    cases l' with
    | nil =>
      simp only [chOf] at hch
      cases ok
      · have HD := Lib.hid (runeTo_eof hR.out rfl)
        go_wp2_with (go_at_call 80; refine (setLit_sa E p' [] e mode l0 k0 _ _ _ HS.out HT2.out).mono ?_; rintro en w3 ⟨rfl, hL, hK⟩)
        go_end0
        exact ⟨rfl, HF.out.tk.trans hK, _, _, _, _, HD.out, hL⟩
      · have HD := Lib.hid (runeTo_eof hR.out rfl)
        go_wp2_with (first | (go_at_call 79; refine (errorAtf_sa E p' [] e _ mode l0 k0 _ _ _ _ _ HS.out he.out HT2.out).mono ?_; rintro en w2 ⟨rfl, hS2, hF2⟩; have hS2 := Lib.hid hS2; have hT3 := Lib.hid (HT2.out.gf hF2); have hF2 := Lib.hid hF2) | (go_at_call 80; refine (setLit_sa E p' [] (e + 1) mode l0 k0 _ _ _ hS2.out hT3.out).mono ?_; rintro en w3 ⟨rfl, hL, hK⟩))
        go_end0
        exact ⟨rfl, (HF.out.trans hF2.out).tk.trans hK, _, _, _, _, HD.out, hL⟩
    | cons c l2 =>
      simp only [chOf] at hch
      by_cases c1 : c = 39
      · subst c1
        cases ok
        · have HD := Lib.hid (runeTo_close hR.out rfl rfl)
          go_wp2_with (first | (go_at_call 57; refine (next_sa E p' 39 l2 e _ HS.out).mono ?_; rintro en w2 ⟨rfl, hS2, hF2⟩; have hS2 := Lib.hid hS2; have hT3 := Lib.hid (HT2.out.gf hF2); have hF2 := Lib.hid hF2) | (go_at_call 80; refine (setLit_sa E _ l2 e mode l0 k0 _ _ _ hS2.out hT3.out).mono ?_; rintro en w3 ⟨rfl, hL, hK⟩))
          go_end0
          exact ⟨rfl, (HF.out.trans hF2.out).tk.trans hK, _, _, _, _, HD.out, hL⟩
        · by_cases n0 : n = 0
          · subst n0
            have HD := Lib.hid (runeTo_close hR.out (e' := e + 1) (ok' := false) rfl rfl)
            go_wp2_with (first | (go_at_call 91; refine (errorf_sa E p' (39 :: l2) e _ _ _ _ _ HS.out he.out).mono ?_; rintro en w4 ⟨rfl, hS4, hF4⟩; have hS4 := Lib.hid hS4; have hT4 := Lib.hid (HT2.out.gf hF4); have hF4 := Lib.hid hF4) | (go_at_call 57; refine (next_sa E p' 39 l2 (e + 1) _ hS4.out).mono ?_; rintro en w2 ⟨rfl, hS2, hF2⟩; have hS2 := Lib.hid hS2; have hT3 := Lib.hid (hT4.out.gf hF2); have hF2 := Lib.hid hF2) | (go_at_call 80; refine (setLit_sa E _ l2 (e + 1) mode l0 k0 _ _ _ hS2.out hT3.out).mono ?_; rintro en w3 ⟨rfl, hL, hK⟩))
            go_end0
            exact ⟨rfl, ((HF.out.trans hF4.out).trans hF2.out).tk.trans hK, _, _, _, _, HD.out, hL⟩
          by_cases n1 : n = 1
          · subst n1
            have HD := Lib.hid (runeTo_close hR.out (e' := e) (ok' := true) rfl rfl)
            go_wp2_with (first | (go_at_call 57; refine (next_sa E p' 39 l2 e _ HS.out).mono ?_; rintro en w2 ⟨rfl, hS2, hF2⟩; have hS2 := Lib.hid hS2; have hT3 := Lib.hid (HT2.out.gf hF2); have hF2 := Lib.hid hF2) | (go_at_call 80; refine (setLit_sa E _ l2 e mode l0 k0 _ _ _ hS2.out hT3.out).mono ?_; rintro en w3 ⟨rfl, hL, hK⟩))
            go_end0
            exact ⟨rfl, (HF.out.trans hF2.out).tk.trans hK, _, _, _, _, HD.out, hL⟩
          · have HD := Lib.hid (runeTo_close hR.out (e' := e + 1) (ok' := false) (by simp [n1, er]) (by simp [n1]))
            have t0 : ((n : Int) == 0) = false := by simp; omega
            have t1 : ((n : Int) != 1) = true := by simp; omega
            clear n0 n1
            go_wp2_with (first | (go_at_call 79; refine (errorAtf_sa E p' (39 :: l2) e _ mode l0 k0 _ _ _ _ _ HS.out he.out HT2.out).mono ?_; rintro en w4 ⟨rfl, hS4, hF4⟩; have hS4 := Lib.hid hS4; have hT4 := Lib.hid (HT2.out.gf hF4); have hF4 := Lib.hid hF4) | (go_at_call 57; refine (next_sa E p' 39 l2 (e + 1) _ hS4.out).mono ?_; rintro en w2 ⟨rfl, hS2, hF2⟩; have hS2 := Lib.hid hS2; have hT3 := Lib.hid (hT4.out.gf hF2); have hF2 := Lib.hid hF2) | (go_at_call 80; refine (setLit_sa E _ l2 (e + 1) mode l0 k0 _ _ _ hS2.out hT3.out).mono ?_; rintro en w3 ⟨rfl, hL, hK⟩))
            go_end0
            exact ⟨rfl, ((HF.out.trans hF4.out).trans hF2.out).tk.trans hK, _, _, _, _, HD.out, hL⟩
      have t1 : ((c : Int) == 39) = false := by simp; omega
      by_cases c2 : c = 92
      · subst c2
        obtain ⟨j, g, hj⟩ : ∃ j g, escE 39 l2 = (j, g) := ⟨_, _, rfl⟩
        have hnx := Lib.hid (runeTo_esc hR.out hj)
        have hj := Lib.hid hj
        clear c1
        go_wp2_with (go_at_call 57; refine (next_sa E p' 92 l2 e _ HS.out).mono ?_; rintro en w2 ⟨rfl, hS2, hF2⟩; have hS2 := Lib.hid hS2; have hT3 := Lib.hid (HT2.out.gf hF2); have hF2 := Lib.hid hF2)
        go_at_call 90
        refine (escape_is E 39 _ l2 e j g _ (.inr rfl) he.out hj.out hS2.out).mono ?_
        rintro en w3 ⟨rfl, hS3, hF3⟩
        have hS3 := Lib.hid hS3
        have hT4 := Lib.hid (hT3.out.gf hF3)
        have hF3 := Lib.hid hF3
        cases g
        · go_wp2_with fail
          go_roundg ((l2.drop j).length + 5)
          case measure => simp; omega
          case rel => exact ⟨false, _, _, n + 1, _, _, rfl, by go_num, rfl, hS3.out, hT4.out, (HF.out.trans hF2.out).trans hF3.out, Lib.hid (by simpa using hnx.out)⟩
        · go_wp2_with fail
          go_roundg ((l2.drop j).length + 5)
          case measure => simp; omega
          case rel => exact ⟨ok, _, _, n + 1, _, _, rfl, by go_num, rfl, hS3.out, hT4.out, (HF.out.trans hF2.out).trans hF3.out, Lib.hid (by simpa using hnx.out)⟩
      have t2 : ((c : Int) == 92) = false := by simp; omega
      by_cases c3 : c = 10
      · subst c3
        clear c1 c2
        cases ok
        · have HD := Lib.hid (runeTo_nl hR.out rfl)
          go_wp2_with (go_at_call 80; refine (setLit_sa E p' (10 :: l2) e mode l0 k0 _ _ _ HS.out HT2.out).mono ?_; rintro en w3 ⟨rfl, hL, hK⟩)
          go_end0
          exact ⟨rfl, HF.out.tk.trans hK, _, _, _, _, HD.out, hL⟩
        · have HD := Lib.hid (runeTo_nl hR.out rfl)
          go_wp2_with (first | (go_at_call 91; refine (errorf_sa E p' (10 :: l2) e _ _ _ _ _ HS.out he.out).mono ?_; rintro en w2 ⟨rfl, hS2, hF2⟩; have hS2 := Lib.hid hS2; have hT3 := Lib.hid (HT2.out.gf hF2); have hF2 := Lib.hid hF2) | (go_at_call 80; refine (setLit_sa E p' (10 :: l2) (e + 1) mode l0 k0 _ _ _ hS2.out hT3.out).mono ?_; rintro en w3 ⟨rfl, hL, hK⟩))
          go_end0
          exact ⟨rfl, (HF.out.trans hF2.out).tk.trans hK, _, _, _, _, HD.out, hL⟩
      have t3 : ((c : Int) == 10) = false := by simp; omega
      have t4 : ¬ (c : Int) < 0 := by omega
      have hnx := Lib.hid (runeTo_step hR.out c1 c2 c3)
      clear c1 c2 c3
      go_wp2_with (go_at_call 57; refine (next_sa E p' c l2 e _ HS.out).mono ?_; rintro en w2 ⟨rfl, hS2, hF2⟩; have hS2 := Lib.hid hS2; have hT3 := Lib.hid (HT2.out.gf hF2); have hF2 := Lib.hid hF2)
      go_roundg (l2.length + 5)
      case measure => simp
      case rel => exact ⟨ok, _, _, n + 1, _, _, rfl, by go_num, rfl, hS2.out, hT3.out, HF.out.trans hF2.out, hnx.out⟩
end Go.Proofs.YtnehkpoggkfikaaDoor
