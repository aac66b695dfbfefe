/-
  The scanner's source as a state: what stands in its memory, and the step to the next character, one law for all cases. Conditions: the state's own bounds.
-/
import Derived.Test.YtnehkpoggkfikaaDoorFirst
namespace Go.Proofs.YtnehkpoggkfikaaDoor
open Go.RowKit
set_option linter.unusedVariables false

/-- Where a scanner stands in its text: whether a segment is active (from the buffer's head), the bytes behind it (the character at hand included), how many they are in the buffer, the characters to come, the one at hand with its width (-1: the end), line and column, whether the end was met. -/
structure St where
  act : Bool
  all : List UInt8
  r : Nat
  rest : List Nat
  ch : Int
  chw : Nat
  line : Nat
  col : Nat
  eof : Bool

def St.next (s : St) : St :=
  match s.rest with
  | [] => { s with ch := -1, chw := 0, line := lineOf s.ch s.line, col := colOf s.ch s.col s.chw, eof := true, r := if (s.eof || s.act) = true then s.r else 0 }
  | x :: l => { s with all := s.all ++ enc x, r := s.r + (enc x).length, rest := l, ch := x, chw := (enc x).length, line := lineOf s.ch s.line, col := colOf s.ch s.col s.chw }

def nl (ch : Int) : Nat := if ch = 10 then 1 else 0
/-- The state's bounds. -/
structure Bd (s : St) : Prop where
  ok : okAll s.rest
  fin : s.eof = true → s.rest = []
  pos : s.act = false → s.eof = false → 0 < s.r
  b1 : s.r + (encs s.rest).length ≤ 2000
  b2 : s.line + nl s.ch + (encs s.rest).length ≤ 4000
  b3 : s.col + s.chw + (encs s.rest).length ≤ 4000
  b4 : s.chw ≤ 4

def eofV (ea : Addr) : Value := .iface 150 (.pointer (some ea))
def Src (w : World) (c : Cfg) (s : St) : Prop :=
  Bd s ∧ Glob w c.ea ∧ ∃ cur, Raw w c cur (if s.eof = true then eofV c.ea else .nilIface) (if s.act = true then 0 else -1) s.r (s.r + (encs s.rest).length) s.line s.col s.ch s.chw c.xn ∧
    BufAt cur s.r (encs s.rest) ∧ cur[s.r + (encs s.rest).length]? = some (.int .u8 128) ∧ (s.act = true → s.r = s.all.length ∧ BufAt cur 0 s.all)

theorem set_same {α : Type} (l : List α) (i : Nat) (v : α) (h : l[i]? = some v) : l.set i v = l := by
  apply List.ext_getElem?
  intro j
  by_cases e : j = i
  · subst e
    obtain ⟨hlt, hv⟩ := List.getElem?_eq_some_iff.1 h
    rw [List.getElem?_set_self hlt, h]
  · rw [List.getElem?_set_ne (Ne.symm e)]

def St.end (s : St) : St := { s with ch := -1, chw := 0, rest := [], line := lineOf s.ch s.line, col := colOf s.ch s.col s.chw, eof := true, r := if (s.eof || s.act) = true then s.r else 0 }
def St.step (s : St) (x : Nat) (l : List Nat) : St := { s with all := s.all ++ enc x, r := s.r + (enc x).length, rest := l, ch := x, chw := (enc x).length, line := lineOf s.ch s.line, col := colOf s.ch s.col s.chw }
theorem St.next_nil {s : St} (h : s.rest = []) : s.next = s.end := by unfold St.next St.end; rw [h]
theorem St.next_cons {s : St} {x : Nat} {l : List Nat} (h : s.rest = x :: l) : s.next = s.step x l := by unfold St.next St.step; rw [h]
theorem nl_le (ch : Int) : nl ch ≤ 1 := by unfold nl; split <;> omega
theorem lineOf_nl (ch : Int) (l : Nat) : lineOf ch l = l + nl ch := by unfold lineOf nl; split <;> rfl
theorem colOf_le (ch : Int) (col chw : Nat) : colOf ch col chw ≤ col + chw := by unfold colOf; split <;> omega

theorem Bd.end {s : St} (h : Bd s) (hs : s.rest = []) : Bd s.end := by
  obtain ⟨ok, fin, pos, b1, b2, b3, b4⟩ := h
  rw [hs] at b1 b2 b3
  simp only [encs, List.length_nil] at b1 b2 b3
  have h1 := lineOf_nl s.ch s.line
  have h2 := colOf_le s.ch s.col s.chw
  refine ⟨okAll_nil, fun _ => rfl, fun _ h => Bool.noConfusion h, ?_, ?_, ?_, by simp [St.end]⟩
  · simp only [St.end, encs, List.length_nil]
    split <;> omega
  · simp only [St.end, encs, List.length_nil]
    have : nl (-1) = 0 := rfl
    omega
  · simp only [St.end, encs, List.length_nil]; omega
theorem Bd.step {s : St} (h : Bd s) {x : Nat} {l : List Nat} (hs : s.rest = x :: l) : Bd (s.step x l) := by
  obtain ⟨ok, fin, pos, b1, b2, b3, b4⟩ := h
  rw [hs] at ok b1 b2 b3
  simp only [encs, List.length_append] at b1 b2 b3
  have hp := enc_len_pos x
  have h1 := lineOf_nl s.ch s.line
  have h2 := colOf_le s.ch s.col s.chw
  have h3 := nl_le (x : Int)
  refine ⟨(okAll_cons.1 ok).2, fun h => ?_, fun _ _ => ?_, ?_, ?_, ?_, enc_len_le x⟩
  · have := fin h; rw [hs] at this; cases this
  · simp only [St.step]; omega
  · simp only [St.step]; omega
  · simp only [St.step]; omega
  · simp only [St.step]; omega
theorem Bd.next {s : St} (h : Bd s) : Bd s.next := by
  cases hs : s.rest with
  | nil => rw [St.next_nil hs]; exact h.end hs
  | cons x l => rw [St.next_cons hs]; exact h.step hs

theorem bufAt_left {cur : List Value} {r : Nat} {a b : List UInt8} (h : BufAt cur r (a ++ b)) : BufAt cur r a := fun j hj => by
  have := h j (by simp; omega)
  rwa [List.getElem_append_left hj] at this
theorem bufAt_right {cur : List Value} {r : Nat} {a b : List UInt8} (h : BufAt cur r (a ++ b)) : BufAt cur (r + a.length) b := fun j hj => by
  have := h (a.length + j) (by simp; omega)
  rw [List.getElem_append_right (by omega)] at this
  rw [Nat.add_assoc]
  simpa using this
theorem bufAt_join {cur : List Value} {r : Nat} {a b : List UInt8} (h1 : BufAt cur r a) (h2 : BufAt cur (r + a.length) b) : BufAt cur r (a ++ b) := fun j hj => by
  by_cases e : j < a.length
  · rw [List.getElem_append_left e]; exact h1 j e
  · rw [List.getElem_append_right (by omega)]
    have := h2 (j - a.length) (by simp at hj; omega)
    rw [Nat.add_assoc, show a.length + (j - a.length) = j from by omega] at this
    exact this

/-- The step to the next character. -/
theorem nextch_any (c : Cfg) (s : St) (w : World) (h : Src w c s) :
    Calls Tryd.prog 57 #[.pointer (some ⟨c.sb, 0, none⟩)] w fun e w' => e = .returned (.tuple #[]) ∧ Src w' c s.next ∧ Fr c w w' := by
  obtain ⟨bd, hG, cur, hR, hbuf, hsent, hact⟩ := h
  have hbd := bd
  obtain ⟨ok, fin, pos, b1, b2, b3, b4⟩ := bd
  have hl : (s.line : Int) ≤ 8000 := by omega
  have hc : (s.col : Int) ≤ 8000 := by omega
  have hw4 : (s.chw : Int) ≤ 4 := by omega
  cases hs : s.rest with
  | nil =>
    have bd' := hbd.end hs
    rw [St.next_nil hs]
    rw [hs] at hR hsent b1
    simp only [encs, List.length_nil, Nat.add_zero] at hR hsent b1
    have hr : (s.r : Int) ≤ 2000 := by omega
    have nb : ∀ (cur' : List Value) r, BufAt cur' r (encs []) := fun _ _ j hj => by simp [encs] at hj
    cases he : s.eof with
    | true =>
      rw [he] at hR
      simp only [if_true, eofV] at hR
      have er : s.end.r = s.r := by simp [St.end, he]
      refine (next_end_again c cur s.r s.line s.col s.chw s.ch _ w hR hsent hG hr hl hc hw4).mono ?_
      rintro e w' ⟨he', hR', hF⟩
      refine ⟨he', ⟨bd', hG.fr hR.ok hF, cur, ?_, nb _ _, ?_, ?_⟩, hF⟩
      · rw [er]; exact hR'
      · rw [er]; exact hsent
      · rw [er]; exact hact
    | false =>
      rw [he] at hR
      cases ha : s.act with
      | true =>
        rw [ha] at hR
        simp only [if_true, if_false, Bool.false_eq_true] at hR
        have er : s.end.r = s.r := by simp [St.end, ha]
        refine (next_end_act c cur s.r s.line s.col s.chw s.ch w hR hsent hG hr hl hc hw4).mono ?_
        rintro e w' ⟨he', hR', hF⟩
        rw [set_same _ _ _ hsent] at hR'
        refine ⟨he', ⟨bd', hG.fr hR.ok hF, cur, ?_, nb _ _, ?_, ?_⟩, hF⟩
        · rw [er]; show Raw _ _ _ _ (if s.act = true then 0 else -1) _ _ _ _ _ _ _; rw [ha]; exact hR'
        · rw [er]; exact hsent
        · rw [er]; exact hact
      | false =>
        rw [ha] at hR
        simp only [if_false, Bool.false_eq_true] at hR
        have hp := pos ha he
        have er : s.end.r = 0 := by simp [St.end, ha, he]
        refine (next_end_stop c cur s.r s.line s.col s.chw s.ch w (by omega) hR hsent hG hr hl hc hw4).mono ?_
        rintro e w' ⟨he', hR', hF⟩
        have hlen : 0 < cur.length := by have := hR.len; omega
        refine ⟨he', ⟨bd', hG.fr hR.ok hF, cur.set 0 (.int .u8 128), ?_, nb _ _, ?_, ?_⟩, hF⟩
        · rw [er]; show Raw _ _ _ _ (if s.act = true then 0 else -1) _ _ _ _ _ _ _; rw [ha]; exact hR'
        · rw [er]; exact List.getElem?_set_self hlen
        · intro h; rw [show s.end.act = s.act from rfl, ha] at h; cases h
  | cons x l =>
    have bd' := hbd.step hs
    rw [St.next_cons hs]
    rw [hs] at hR hsent b1 hbuf ok
    have he : s.eof = false := by
      cases h : s.eof with
      | false => rfl
      | true => have := fin h; rw [hs] at this; cases this
    rw [he] at hR
    obtain ⟨okx, okl⟩ := okAll_cons.1 ok
    have fin' : ∀ w', Filled c w cur .nilIface (if s.act = true then 0 else -1) (s.r + (enc x).length) (s.r + (encs (x :: l)).length) (lineOf s.ch s.line) (colOf s.ch s.col s.chw) x (enc x).length c.xn (.returned (.tuple #[])) w' →
        Src w' c (s.step x l) ∧ Fr c w w' := by
      rintro w' ⟨-, hR', hF⟩
      have e1 : s.r + (encs (x :: l)).length = s.r + (enc x).length + (encs l).length := by simp only [encs, List.length_append]; omega
      rw [e1] at hR' hsent
      refine ⟨⟨bd', hG.fr hR.ok hF, cur, ?_, bufAt_right hbuf, hsent, fun ha => ?_⟩, hF⟩
      · show Raw _ _ _ (if s.eof = true then _ else _) _ _ _ _ _ _ _ _; rw [he]; exact hR'
      · obtain ⟨h1, h2⟩ := hact ha
        refine ⟨by simp [St.step, h1], bufAt_join h2 ?_⟩
        rw [Nat.zero_add, ← h1]
        exact bufAt_left hbuf
    simp only [Bool.false_eq_true, if_false] at hR
    have hle : (encs (x :: l)).length = (enc x ++ encs l).length := rfl
    by_cases hx : x < 128
    · have e := enc_ascii x hx
      have h0 : cur[s.r]? = some (.int .u8 (x : Int)) := by
        have := hbuf 0 (by simp [encs, e])
        simp only [encs, e] at this
        simpa [Nat.mod_eq_of_lt (show x < 256 by omega)] using this
      have e1 : (enc x).length = 1 := by rw [e]; rfl
      rw [e1] at fin'
      refine (next_ascii c cur _ _ s.r _ s.line s.col s.chw x s.ch w _ hR h0 (by omega) (by have := okx.1; omega) (by omega) hl hc hw4).mono ?_
      rintro e' w' ⟨rfl, hR', hF⟩
      exact ⟨rfl, fin' w' ⟨rfl, hR', hF⟩⟩
    · refine (next_multi c cur _ _ s.r _ s.line s.col s.chw x (encs l) s.ch w _ okx (by omega) hR (by rw [hle]) hbuf hG (by omega) hl hc hw4).mono ?_
      rintro e' w' ⟨rfl, hR', hF⟩
      exact ⟨rfl, fin' w' ⟨rfl, hR', hF⟩⟩

end Go.Proofs.YtnehkpoggkfikaaDoor
