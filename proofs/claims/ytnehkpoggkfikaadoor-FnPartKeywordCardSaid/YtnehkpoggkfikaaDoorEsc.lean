/-
  Plain Lean, no program in it: what the scanner reads of an escape, of a string and of a rune, as relations on the characters. No condition beyond each law's own.
-/
import Derived.Test.YtnehkpoggkfikaaDoorText
namespace Go.Proofs.YtnehkpoggkfikaaDoor
set_option linter.unusedVariables false

/-- A digit's value; the base, where it is none. -/
def digB (base c : Nat) : Nat := if 48 ≤ c ∧ c ≤ 57 then c - 48 else if 97 ≤ c ∧ c ≤ 102 then c - 87 else if 65 ≤ c ∧ c ≤ 70 then c - 55 else base
/-- Whether an escape's number is that of a character. -/
def escOk (mx x : Nat) : Bool := decide (x ≤ mx ∧ (x < 55296 ∨ 57344 ≤ x))
/-- An escape's digits: how many characters are read, and whether no error is told. -/
def digsE (base mx : Nat) : Nat → Nat → List Nat → Nat × Bool
  | 0, x, _ => (0, escOk mx x)
  | _ + 1, _, [] => (0, true)
  | n + 1, x, c :: l => if digB base c < base then ((digsE base mx n (x * base + digB base c) l).1 + 1, (digsE base mx n (x * base + digB base c) l).2) else (0, false)
def simpleEsc (q c : Nat) : Prop := c = q ∨ c = 97 ∨ c = 98 ∨ c = 102 ∨ c = 110 ∨ c = 114 ∨ c = 116 ∨ c = 118 ∨ c = 92
instance (q c : Nat) : Decidable (simpleEsc q c) := by unfold simpleEsc; exact inferInstance
/-- What is read behind a backslash. -/
def escC (q c : Nat) (l : List Nat) : Nat × Bool :=
  if simpleEsc q c then (1, true) else if 48 ≤ c ∧ c ≤ 55 then digsE 8 255 3 0 (c :: l)
    else if c = 120 then ((digsE 16 255 2 0 l).1 + 1, (digsE 16 255 2 0 l).2)
    else if c = 117 then ((digsE 16 1114111 4 0 l).1 + 1, (digsE 16 1114111 4 0 l).2)
    else if c = 85 then ((digsE 16 1114111 8 0 l).1 + 1, (digsE 16 1114111 8 0 l).2)
    else (0, false)
def escE (q : Nat) : List Nat → Nat × Bool
  | [] => (0, true)
  | c :: l => escC q c l
theorem escE_cons (q c : Nat) (l : List Nat) : escE q (c :: l) = escC q c l := rfl

theorem digsE_le (base mx n x : Nat) (l : List Nat) : (digsE base mx n x l).1 ≤ l.length := by
  induction n generalizing x l with
  | zero => simp [digsE]
  | succ n ih =>
    cases l with
    | nil => simp [digsE]
    | cons c l =>
      unfold digsE
      split
      · have := ih (x * base + digB base c) l; simp; omega
      · simp
theorem escE_le (q : Nat) (l : List Nat) : (escE q l).1 ≤ l.length := by
  cases l with
  | nil => simp [escE]
  | cons c l =>
    rw [escE_cons]; unfold escC
    have a := digsE_le 8 255 3 0 (c :: l)
    have b := digsE_le 16 255 2 0 l
    have d := digsE_le 16 1114111 4 0 l
    have e := digsE_le 16 1114111 8 0 l
    repeat' split
    all_goals (simp at *; try omega)

/-- One error, or none. -/
def er (ok : Bool) : Nat := if ok then 0 else 1

/-- A string behind its quote: how many characters are read, how many errors are told, whether it is right. -/
inductive StrRun : List Nat → Nat → Nat → Bool → Prop
  | close (l) : StrRun (34 :: l) 1 0 true
  | esc (l m e ok) : StrRun (l.drop (escE 34 l).1) m e ok → StrRun (92 :: l) (1 + (escE 34 l).1 + m) (er (escE 34 l).2 + e) ((escE 34 l).2 && ok)
  | nl (l) : StrRun (10 :: l) 0 1 false
  | eof : StrRun [] 0 1 false
  | step (c l m e ok) : c ≠ 34 → c ≠ 92 → c ≠ 10 → StrRun l m e ok → StrRun (c :: l) (m + 1) e ok

/-- A rune behind its quote, n units read, all right or not. -/
inductive RuneRun : List Nat → Nat → Bool → Nat → Nat → Bool → Prop
  | close (l n ok) : RuneRun (39 :: l) n ok 1 (er (!(ok && n != 1))) (ok && n == 1)
  | esc (l n ok m e okr) : RuneRun (l.drop (escE 39 l).1) (n + 1) (ok && (escE 39 l).2) m e okr → RuneRun (92 :: l) n ok (1 + (escE 39 l).1 + m) (er (escE 39 l).2 + e) okr
  | nl (l n ok) : RuneRun (10 :: l) n ok 0 (er (!ok)) false
  | eof (n ok) : RuneRun [] n ok 0 (er (!ok)) false
  | step (c l n ok m e okr) : c ≠ 39 → c ≠ 92 → c ≠ 10 → RuneRun l (n + 1) ok m e okr → RuneRun (c :: l) n ok (m + 1) e okr

/-- The digits of a number to the base sixteen. -/
def hexC (d : Nat) : Nat := if d < 10 then 48 + d else 87 + d
def hex8 (r : Nat) : List Nat := [hexC (r / 268435456 % 16), hexC (r / 16777216 % 16), hexC (r / 1048576 % 16), hexC (r / 65536 % 16), hexC (r / 4096 % 16), hexC (r / 256 % 16), hexC (r / 16 % 16), hexC (r % 16)]
/-- A character between quotes. -/
def unitQ (q : Nat) (full : Bool) (r : Nat) : List Nat :=
  if full = true ∨ r = 127 ∨ (r < 32 ∧ r ≠ 10 ∧ r ≠ 9 ∧ r ≠ 13) then 92 :: 85 :: hex8 r
  else if r = 10 then [92, 110] else if r = 9 then [92, 116] else if r = 13 then [92, 114]
  else if r = q ∨ r = 92 then [92, r] else [r]
def unitsQ (q : Nat) (full : Bool) (rs : List Nat) : List Nat := rs.flatMap (unitQ q full)

theorem digB_hexC (d : Nat) (h : d < 16) : digB 16 (hexC d) = d := by
  unfold hexC digB
  split
  · rw [if_pos ⟨by omega, by omega⟩]; omega
  · rw [if_neg (by omega), if_pos ⟨by omega, by omega⟩]; omega
theorem digsE_cons (mx n x d : Nat) (l : List Nat) (h : d < 16) : digsE 16 mx (n + 1) x (hexC d :: l) = ((digsE 16 mx n (x * 16 + d) l).1 + 1, (digsE 16 mx n (x * 16 + d) l).2) := by
  rw [digsE, digB_hexC d h, if_pos h]
theorem escE_hex8 (q r : Nat) (hq : q = 34 ∨ q = 39) (hr : okR r) (t : List Nat) : escE q (85 :: (hex8 r ++ t)) = (9, true) := by
  have hv := hr.2.2.2
  have hs : ¬ simpleEsc q 85 := by unfold simpleEsc; omega
  rw [escE_cons]; unfold escC
  rw [if_neg hs, if_neg (by omega), if_neg (by omega), if_neg (by omega), if_pos rfl]
  unfold hex8
  simp only [List.cons_append, List.nil_append]
  rw [digsE_cons _ _ _ _ _ (by omega), digsE_cons _ _ _ _ _ (by omega), digsE_cons _ _ _ _ _ (by omega), digsE_cons _ _ _ _ _ (by omega), digsE_cons _ _ _ _ _ (by omega), digsE_cons _ _ _ _ _ (by omega), digsE_cons _ _ _ _ _ (by omega), digsE_cons _ _ _ _ _ (by omega)]
  have e : (((((((0 * 16 + r / 268435456 % 16) * 16 + r / 16777216 % 16) * 16 + r / 1048576 % 16) * 16 + r / 65536 % 16) * 16 + r / 4096 % 16) * 16 + r / 256 % 16) * 16 + r / 16 % 16) * 16 + r % 16 = r := by omega
  rw [e]
  unfold digsE
  have ho : escOk 1114111 r = true := decide_eq_true ⟨by omega, by omega⟩
  rw [ho]
theorem escE_simple (q c : Nat) (h : simpleEsc q c) (t : List Nat) : escE q (c :: t) = (1, true) := by
  rw [escE_cons]; unfold escC; rw [if_pos h]

theorem unitQ_esc (q : Nat) (full : Bool) (r : Nat) (hq : q = 34 ∨ q = 39) (hr : okR r) : (∃ u, unitQ q full r = 92 :: u ∧ ∀ t, escE q (u ++ t) = (u.length, true)) ∨ (unitQ q full r = [r] ∧ r ≠ q ∧ r ≠ 92 ∧ r ≠ 10) := by
  unfold unitQ
  split
  · exact .inl ⟨85 :: hex8 r, rfl, fun t => escE_hex8 q r hq hr t⟩
  split
  · exact .inl ⟨[110], rfl, fun t => escE_simple q 110 (by unfold simpleEsc; omega) t⟩
  split
  · exact .inl ⟨[116], rfl, fun t => escE_simple q 116 (by unfold simpleEsc; omega) t⟩
  split
  · exact .inl ⟨[114], rfl, fun t => escE_simple q 114 (by unfold simpleEsc; omega) t⟩
  split
  · rename_i h
    exact .inl ⟨[r], rfl, fun t => escE_simple q r (by unfold simpleEsc; omega) t⟩
  · exact .inr ⟨rfl, by omega, by omega, by omega⟩

theorem strRun_unit {full : Bool} {r : Nat} (hr : okR r) {t : List Nat} {m e : Nat} {ok : Bool} (h : StrRun (unitQ 34 full r ++ t) m e ok) : ∃ m', m = (unitQ 34 full r).length + m' ∧ StrRun t m' e ok := by
  rcases unitQ_esc 34 full r (.inl rfl) hr with ⟨u, hu, he⟩ | ⟨hu, h1, h2, h3⟩
  · rw [hu] at h ⊢
    simp only [List.cons_append] at h
    generalize hl : u ++ t = l at h
    cases h with
    | esc l m e ok h =>
      have := he t
      rw [hl] at this
      rw [this] at h ⊢
      rw [← hl, List.drop_left' rfl] at h
      exact ⟨m, by simp; omega, by simpa [er] using h⟩
    | step c l m e ok h1 h2 => exact absurd rfl h2
  · rw [hu] at h ⊢
    simp only [List.cons_append, List.nil_append] at h
    cases h with
    | close => exact absurd rfl h1
    | esc => exact absurd rfl h2
    | nl => exact absurd rfl h3
    | step c l m e ok _ _ _ h => exact ⟨m, by simp; omega, h⟩
theorem strRun_units {full : Bool} {rs : List Nat} (hr : okAll rs) {t : List Nat} {m e : Nat} {ok : Bool} (h : StrRun (unitsQ 34 full rs ++ t) m e ok) : ∃ m', m = (unitsQ 34 full rs).length + m' ∧ StrRun t m' e ok := by
  induction rs generalizing m with
  | nil => exact ⟨m, by simp [unitsQ], h⟩
  | cons r rs ih =>
    obtain ⟨h1, h2⟩ := okAll_cons.1 hr
    simp only [unitsQ, List.flatMap_cons, List.append_assoc] at h
    obtain ⟨m1, rfl, h3⟩ := strRun_unit h1 h
    obtain ⟨m2, rfl, h4⟩ := ih h2 h3
    exact ⟨m2, by simp [unitsQ]; omega, h4⟩
theorem strRun_close {t : List Nat} {m e : Nat} {ok : Bool} (h : StrRun (34 :: t) m e ok) : m = 1 ∧ e = 0 ∧ ok = true := by
  cases h with
  | close => exact ⟨rfl, rfl, rfl⟩
  | step _ _ _ _ _ h => exact absurd rfl h
theorem strRun_eof {m e : Nat} {ok : Bool} (h : StrRun [] m e ok) : e = 1 := by cases h; rfl
theorem strRun_nl {t : List Nat} {m e : Nat} {ok : Bool} (h : StrRun (10 :: t) m e ok) : e = 1 := by
  cases h with
  | nl => rfl
  | step _ _ _ _ _ _ _ h => exact absurd rfl h

theorem runeRun_unit {r : Nat} (hr : okR r) {t : List Nat} {n m e : Nat} {ok okr : Bool} (h : RuneRun (unitQ 39 false r ++ t) n ok m e okr) : ∃ m', m = (unitQ 39 false r).length + m' ∧ RuneRun t (n + 1) ok m' e okr := by
  rcases unitQ_esc 39 false r (.inr rfl) hr with ⟨u, hu, he⟩ | ⟨hu, h1, h2, h3⟩
  · rw [hu] at h ⊢
    simp only [List.cons_append] at h
    generalize hl : u ++ t = l at h
    cases h with
    | esc l n ok m e okr h =>
      have := he t
      rw [hl] at this
      rw [this] at h ⊢
      rw [← hl, List.drop_left' rfl] at h
      exact ⟨m, by simp; omega, by simpa [er] using h⟩
    | step c l n ok m e okr h1 h2 => exact absurd rfl h2
  · rw [hu] at h ⊢
    simp only [List.cons_append, List.nil_append] at h
    cases h with
    | close => exact absurd rfl h1
    | esc => exact absurd rfl h2
    | nl => exact absurd rfl h3
    | step c l n ok m e okr _ _ _ h => exact ⟨m, by simp; omega, h⟩
theorem runeRun_units {rs : List Nat} (hr : okAll rs) {t : List Nat} {n m e : Nat} {ok okr : Bool} (h : RuneRun (unitsQ 39 false rs ++ t) n ok m e okr) : ∃ m', m = (unitsQ 39 false rs).length + m' ∧ RuneRun t (n + rs.length) ok m' e okr := by
  induction rs generalizing m n with
  | nil => exact ⟨m, by simp [unitsQ], by simpa [unitsQ] using h⟩
  | cons r rs ih =>
    obtain ⟨h1, h2⟩ := okAll_cons.1 hr
    simp only [unitsQ, List.flatMap_cons, List.append_assoc] at h
    obtain ⟨m1, rfl, h3⟩ := runeRun_unit h1 h
    obtain ⟨m2, rfl, h4⟩ := ih h2 h3
    exact ⟨m2, by simp [unitsQ]; omega, by rw [List.length_cons, show n + (rs.length + 1) = n + 1 + rs.length by omega]; exact h4⟩
theorem runeRun_close {t : List Nat} {n m e : Nat} {ok okr : Bool} (h : RuneRun (39 :: t) n ok m e okr) : m = 1 ∧ e = er (!(ok && n != 1)) ∧ okr = (ok && n == 1) := by
  cases h with
  | close => exact ⟨rfl, rfl, rfl⟩
  | step _ _ _ _ _ _ _ h => exact absurd rfl h
theorem runeRun_eof {n m e : Nat} {ok okr : Bool} (h : RuneRun [] n ok m e okr) : e = er (!ok) := by cases h; rfl

theorem unitQ_len (q : Nat) (full : Bool) (r : Nat) : (unitQ q full r).length ≤ 10 := by
  unfold unitQ hex8; repeat' split
  all_goals simp
theorem okR_ascii {c : Nat} (h1 : 0 < c) (h2 : c < 128) : okR c := by unfold okR; omega
theorem hexC_ok (d : Nat) (h : d < 16) : okR (hexC d) := by
  refine okR_ascii ?_ ?_ <;> (unfold hexC; split <;> omega)
theorem unitQ_ok (q : Nat) (full : Bool) (r : Nat) (hr : okR r) : okAll (unitQ q full r) := by
  unfold unitQ hex8
  repeat' split
  all_goals
    intro x hx
    simp only [List.mem_cons, List.not_mem_nil, or_false] at hx
  · rcases hx with rfl | rfl | rfl | rfl | rfl | rfl | rfl | rfl | rfl | rfl
    · exact okR_ascii (by omega) (by omega)
    · exact okR_ascii (by omega) (by omega)
    all_goals exact hexC_ok _ (by omega)
  · rcases hx with rfl | rfl <;> exact okR_ascii (by omega) (by omega)
  · rcases hx with rfl | rfl <;> exact okR_ascii (by omega) (by omega)
  · rcases hx with rfl | rfl <;> exact okR_ascii (by omega) (by omega)
  · rcases hx with rfl | rfl
    · exact okR_ascii (by omega) (by omega)
    · exact hr
  · subst hx; exact hr
theorem unitsQ_ok (q : Nat) (full : Bool) (rs : List Nat) (h : okAll rs) : okAll (unitsQ q full rs) := by
  intro x hx
  unfold unitsQ at hx
  obtain ⟨r, hr, hx⟩ := List.mem_flatMap.1 hx
  exact unitQ_ok q full r (h r hr) x hx
end Go.Proofs.YtnehkpoggkfikaaDoor
