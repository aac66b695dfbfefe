/-
  Plain Lean, no program in it: an escape of bytes as the specification's function reads it, and as the scanner reads it. No condition beyond each law's own.
-/
import Derived.Test.YtnehkpoggkfikaaDoorEsc
namespace Go.Proofs.YtnehkpoggkfikaaDoor
set_option linter.unusedVariables false

/-- The value of the first n bytes, if they are digits. -/
def hexRun (base : Nat) : Nat → Nat → List UInt8 → Option Nat
  | 0, x, _ => some x
  | _ + 1, _, [] => none
  | n + 1, x, c :: l => if digB base c.toNat < base then hexRun base n (x * base + digB base c.toNat) l else none
/-- The size of an escape, by its number. -/
def sizeIf (mx size : Nat) : Option Nat → Nat
  | some v => if escOk mx v = true then size else 0
  | none => 0
/-- How many bytes the escape has with which a text begins. -/
def escBC (q : Nat) (c : UInt8) (l : List UInt8) : Nat :=
  if simpleEsc q c.toNat then 2 else if 48 ≤ c.toNat ∧ c.toNat ≤ 55 then sizeIf 255 4 (hexRun 8 3 0 (c :: l))
    else if c.toNat = 120 then sizeIf 255 4 (hexRun 16 2 0 l)
    else if c.toNat = 117 then sizeIf 1114111 6 (hexRun 16 4 0 l)
    else if c.toNat = 85 then sizeIf 1114111 10 (hexRun 16 8 0 l)
    else 0
def escB (q : Nat) : List UInt8 → Nat
  | _ :: c :: l => escBC q c l
  | _ => 0
theorem escB_cons (q : Nat) (x c : UInt8) (l : List UInt8) : escB q (x :: c :: l) = escBC q c l := rfl

theorem digB_none (base c : Nat) (h : base = 8 ∨ base = 16) (hc : c = 34 ∨ c = 39 ∨ 128 ≤ c) : ¬ digB base c < base := by
  unfold digB
  rw [if_neg (by omega), if_neg (by omega), if_neg (by omega)]; omega
theorem digsE_hex (base mx n x : Nat) (hb : base = 8 ∨ base = 16) (l t : List Nat) (hl : okAll l) :
    (∃ v, hexRun base n x (encs l) = some v ∧ digsE base mx n x (l ++ 34 :: t) = (n, escOk mx v) ∧ n ≤ l.length) ∨ (hexRun base n x (encs l) = none ∧ (digsE base mx n x (l ++ 34 :: t)).2 = false) := by
  induction n generalizing x l with
  | zero => exact .inl ⟨x, by simp [hexRun], by simp [digsE], by omega⟩
  | succ n ih =>
    cases l with
    | nil =>
      refine .inr ⟨by simp [encs, hexRun], ?_⟩
      simp only [List.nil_append]
      unfold digsE
      rw [if_neg (digB_none base 34 hb (.inl rfl))]
    | cons c l =>
      obtain ⟨hc, hl'⟩ := okAll_cons.1 hl
      obtain ⟨b, t', he, h1, h2, -⟩ := enc_first c hc
      by_cases hc8 : c < 128
      · obtain ⟨e1, e2⟩ := h1 hc8
        subst e2
        have ee : encs (c :: l) = b :: encs l := by simp [encs, he]
        rw [ee]
        unfold hexRun digsE
        rw [e1]
        simp only [List.cons_append]
        by_cases hd : digB base c < base
        · simp only [if_pos hd]
          rcases ih (x * base + digB base c) l hl' with ⟨v, a, e, f⟩ | ⟨a, e⟩
          · exact .inl ⟨v, a, by rw [e], by simp; omega⟩
          · exact .inr ⟨a, e⟩
        · simp only [if_neg hd]; exact .inr ⟨trivial, trivial⟩
      · have hb8 := h2 (by omega)
        have ee : encs (c :: l) = b :: (t' ++ encs l) := by simp [encs, he]
        refine .inr ⟨?_, ?_⟩
        · rw [ee]; unfold hexRun; rw [if_neg (digB_none base _ hb (.inr (.inr hb8)))]
        · simp only [List.cons_append]
          unfold digsE
          rw [if_neg (digB_none base c hb (.inr (.inr (by omega))))]

/-- The scanner takes an escape for right just where the specification's function does, and reads no more than there is. -/
theorem escE_escB (l t : List Nat) (hl : okAll l) (h0 : l ≠ []) (h34 : 34 ∉ l) (x : UInt8) :
    ((escE 34 (l ++ 34 :: t)).2 = true ∧ escB 34 (x :: encs l) ≠ 0 ∧ (escE 34 (l ++ 34 :: t)).1 ≤ l.length) ∨ ((escE 34 (l ++ 34 :: t)).2 = false ∧ escB 34 (x :: encs l) = 0) := by
  cases l with
  | nil => exact absurd rfl h0
  | cons c l =>
    obtain ⟨hc, hl'⟩ := okAll_cons.1 hl
    obtain ⟨b, t', he, h1, h2, -⟩ := enc_first c hc
    have key : ∀ (mx n base size d : Nat) (l' : List Nat) (hb : base = 8 ∨ base = 16) (hs : size ≠ 0) (ho : okAll l') (hd : l'.length + d = (c :: l).length),
        ((digsE base mx n 0 (l' ++ 34 :: t)).2 = true ∧ sizeIf mx size (hexRun base n 0 (encs l')) ≠ 0 ∧ (digsE base mx n 0 (l' ++ 34 :: t)).1 + d ≤ (c :: l).length) ∨
        ((digsE base mx n 0 (l' ++ 34 :: t)).2 = false ∧ sizeIf mx size (hexRun base n 0 (encs l')) = 0) := by
      intro mx n base size d l' hb hs ho hd
      rcases digsE_hex base mx n 0 hb l' t ho with ⟨v, a, e, f⟩ | ⟨a, e⟩
      · rw [a, e]
        unfold sizeIf
        cases hk : escOk mx v
        · exact .inr ⟨rfl, by simp [hk]⟩
        · exact .inl ⟨rfl, by simp [hs, hk], by simp only; omega⟩
      · rw [a]; exact .inr ⟨e, rfl⟩
    by_cases hc8 : c < 128
    · obtain ⟨e1, e2⟩ := h1 hc8
      subst e2
      have ee : encs (c :: l) = b :: encs l := by simp [encs, he]
      have k8 := key 255 3 8 4 0 (c :: l) (.inl rfl) (by omega) hl rfl
      have k2 := key 255 2 16 4 1 l (.inr rfl) (by omega) hl' rfl
      have k4 := key 1114111 4 16 6 1 l (.inr rfl) (by omega) hl' rfl
      have kk := key 1114111 8 16 10 1 l (.inr rfl) (by omega) hl' rfl
      rw [ee] at k8 ⊢
      simp only [List.cons_append] at k8 ⊢
      rw [escE_cons, escB_cons]; unfold escC escBC
      rw [e1]
      by_cases hs : simpleEsc 34 c
      · simp only [if_pos hs]; exact .inl ⟨trivial, by omega, by simp⟩
      simp only [if_neg hs]
      by_cases hs : 48 ≤ c ∧ c ≤ 55
      · simp only [if_pos hs]; exact k8
      simp only [if_neg hs]
      by_cases hs : c = 120
      · simp only [if_pos hs]; exact k2
      simp only [if_neg hs]
      by_cases hs : c = 117
      · simp only [if_pos hs]; exact k4
      simp only [if_neg hs]
      by_cases hs : c = 85
      · simp only [if_pos hs]; exact kk
      simp only [if_neg hs]
      exact .inr ⟨trivial, trivial⟩
    · have hb8 := h2 (by omega)
      have ee : encs (c :: l) = b :: (t' ++ encs l) := by simp [encs, he]
      refine .inr ⟨?_, ?_⟩
      · simp only [List.cons_append]
        rw [escE_cons]; unfold escC
        rw [if_neg (by unfold simpleEsc; omega), if_neg (by omega), if_neg (by omega), if_neg (by omega), if_neg (by omega)]
      · rw [ee]
        rw [escB_cons]; unfold escBC
        rw [if_neg (by unfold simpleEsc; omega), if_neg (by omega), if_neg (by omega), if_neg (by omega), if_neg (by omega)]

/-- Characters that stand for themselves in a string. -/
theorem strRun_plain {l t : List Nat} {m e : Nat} {ok : Bool} (hl : ∀ c ∈ l, c ≠ 34 ∧ c ≠ 92 ∧ c ≠ 10) (h : StrRun (l ++ 34 :: t) m e ok) : m = l.length + 1 ∧ e = 0 ∧ ok = true := by
  induction l generalizing m with
  | nil => simpa using strRun_close h
  | cons c l ih =>
    obtain ⟨h1, h2, h3⟩ := hl c (by simp)
    simp only [List.cons_append] at h
    cases h with
    | close => exact absurd rfl h1
    | esc => exact absurd rfl h2
    | nl => exact absurd rfl h3
    | step c l m e ok _ _ _ h =>
      obtain ⟨a, b, c⟩ := ih (fun c hc => hl c (by simp [hc])) h
      exact ⟨by simp; omega, b, c⟩
/-- An escape, and characters that stand for themselves, in a string. -/
theorem strRun_escape {l t : List Nat} {m e : Nat} {ok : Bool} (ho : okAll l) (h0 : l ≠ []) (hl : ∀ c ∈ l, c ≠ 34 ∧ c ≠ 92 ∧ c ≠ 10) (h : StrRun (92 :: (l ++ 34 :: t)) m e ok) (x : UInt8) :
    (escB 34 (x :: encs l) = 0 → 0 < e) ∧ (escB 34 (x :: encs l) ≠ 0 → m = l.length + 2 ∧ e = 0 ∧ ok = true) := by
  generalize hL : l ++ 34 :: t = L at h
  cases h with
  | step c l m e ok h1 h2 => exact absurd rfl h2
  | esc L m e ok h =>
    subst hL
    rcases escE_escB l t ho h0 (fun hm => (hl 34 hm).1 rfl) x with ⟨a, b, c⟩ | ⟨a, b⟩
    · refine ⟨fun hz => absurd hz b, fun _ => ?_⟩
      rw [List.drop_append_of_le_length c] at h
      obtain ⟨h1, h2, h3⟩ := strRun_plain (fun y hy => hl y (List.mem_of_mem_drop hy)) h
      subst h2
      rw [a, h3, h1]
      simp only [List.length_drop, er, if_true, Bool.and_self, and_self, and_true]
      omega
    · refine ⟨fun _ => ?_, fun hn => absurd b hn⟩
      rw [a]
      show 0 < er false + e
      simp only [er, Bool.false_eq_true, if_false]; omega
end Go.Proofs.YtnehkpoggkfikaaDoor
