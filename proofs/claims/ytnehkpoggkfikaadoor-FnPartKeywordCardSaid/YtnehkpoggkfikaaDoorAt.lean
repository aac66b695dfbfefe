/-
  A scanner at a place of its text: the bytes of the segment behind it, the characters from the one at hand on. Conditions: each law's own.
-/
import Derived.Test.YtnehkpoggkfikaaDoorLit
namespace Go.Proofs.YtnehkpoggkfikaaDoor
open Go.RowKit
set_option linter.unusedVariables false

/-- The number of the character at hand; -1 at the end. -/
def chOf : List Nat → Int
  | [] => -1
  | x :: _ => x
/-- The bytes of the character at hand. -/
def headOf : List Nat → List UInt8
  | [] => []
  | x :: _ => enc x
/-- The segment holds p; the characters from the one at hand on are l. -/
structure At (s : St) (p : List UInt8) (l : List Nat) : Prop where
  act : s.act = true
  ch : s.ch = chOf l
  chw : s.chw = (headOf l).length
  rest : s.rest = l.tail
  all : s.all = p ++ headOf l
  col : (∀ b ∈ p, b ≠ 10) → s.col = p.length

theorem enc_ten {x : Nat} (hx : okR x) (h : x ≠ 10) : ∀ b ∈ enc x, b ≠ 10 := by
  have hv := hx.2.2.2
  rcases enc_form x hx with ⟨_, b0, e, h0⟩ | ⟨_, b0, b1, e, h0, h1, _⟩ | ⟨_, b0, b1, b2, e, h0, h1, h2, _⟩ | ⟨_, b0, b1, b2, b3, e, h0, h1, h2, h3, _⟩ <;> rw [e] <;> intro b hb <;> simp at hb
  · subst hb; intro he; rw [he] at h0; simp at h0; omega
  · rcases hb with rfl | rfl <;> intro he
    · rw [he] at h0; simp at h0; omega
    · rw [he] at h1; simp at h1; omega
  · rcases hb with rfl | rfl | rfl <;> intro he
    · rw [he] at h0; simp at h0; omega
    · rw [he] at h1; simp at h1; omega
    · rw [he] at h2; simp at h2; omega
  · rcases hb with rfl | rfl | rfl | rfl <;> intro he
    · rw [he] at h0; simp at h0; omega
    · rw [he] at h1; simp at h1; omega
    · rw [he] at h2; simp at h2; omega
    · rw [he] at h3; simp at h3; omega

theorem At.next {s : St} {p : List UInt8} {x : Nat} {l : List Nat} (h : At s p (x :: l)) : At s.next (p ++ enc x) l := by
  obtain ⟨act, ch, chw, rest, all, col⟩ := h
  simp only [chOf, headOf, List.tail_cons] at ch chw rest all
  have hcol : (∀ b ∈ p ++ enc x, b ≠ 10) → colOf s.ch s.col s.chw = (p ++ enc x).length := fun hb => by
    have h10 : ¬ s.ch = 10 := by
      rw [ch]; intro e
      have e : x = 10 := by omega
      subst e
      exact hb 10 (by simp [enc_ascii]) rfl
    rw [colOf, if_neg h10, col (fun b hb' => hb b (by simp [hb'])), chw]; simp
  cases l with
  | nil => rw [St.next_nil rest]; exact ⟨act, rfl, rfl, rfl, by simp [St.end, all, headOf], hcol⟩
  | cons y m => rw [St.next_cons rest]; exact ⟨act, rfl, rfl, rfl, by simp [St.step, all, headOf], hcol⟩
theorem At.next_end {s : St} {p : List UInt8} (h : At s p []) : At s.next p [] := by
  obtain ⟨act, ch, chw, rest, all, col⟩ := h
  simp only [chOf, headOf, List.tail_nil, List.length_nil] at ch chw rest all
  rw [St.next_nil rest]
  refine ⟨act, rfl, rfl, rfl, by simp [St.end, all, headOf], fun hb => ?_⟩
  show colOf s.ch s.col s.chw = _
  rw [ch, chw, colOf, if_neg (by omega), col hb]; simp
theorem At.seg {s : St} {p : List UInt8} {l : List Nat} (h : At s p l) : s.seg = p := by
  unfold St.seg
  rw [h.all, h.chw, List.length_append, Nat.add_sub_cancel, List.take_left' rfl]
theorem At.wide {s : St} {p : List UInt8} {l : List Nat} (h : At s p l) : s.chw ≤ s.all.length := by
  rw [h.all, h.chw]; simp

/-- The scanner at a place of its text, n things told. -/
def ScanAt (w : World) (E : Env) (p : List UInt8) (l : List Nat) (n : Nat) (xs : List Value) : Prop := ∃ s, Scan w E s n xs ∧ At s p l
theorem ScanAt.ch {w : World} {E : Env} {p : List UInt8} {l : List Nat} {n : Nat} {xs : List Value} (h : ScanAt w E p l n xs) : w.cell? ⟨E.c.sb, 9, none⟩ = some (.int .i32 (chOf l)) := by
  obtain ⟨s, h, ha⟩ := h; rw [← ha.ch]; exact h.ch
theorem ScanAt.drewN {w : World} {E : Env} {p : List UInt8} {l : List Nat} {n : Nat} {xs : List Value} (h : ScanAt w E p l n xs) (k : Nat) : ScanAt (w.drewN k) E p l n xs :=
  let ⟨s, h, ha⟩ := h; ⟨s, h.drewN k, ha⟩
theorem ScanAt.okAll {w : World} {E : Env} {p : List UInt8} {x : Nat} {l : List Nat} {n : Nat} {xs : List Value} (h : ScanAt w E p (x :: l) n xs) : okAll l := by
  obtain ⟨s, h, ha⟩ := h
  have := h.src.1.ok
  rw [ha.rest] at this
  exact this

/-- The step to the next character, at a place. -/
theorem next_at (E : Env) (p : List UInt8) (x : Nat) (l : List Nat) (n : Nat) (xs : List Value) (w : World) (h : ScanAt w E p (x :: l) n xs) :
    Calls Tryd.prog 57 #[.pointer (some ⟨E.c.sb, 0, none⟩)] w fun e w' => e = .returned (.tuple #[]) ∧ ScanAt w' E (p ++ enc x) l n xs ∧ GF E w w' := by
  obtain ⟨s, h, ha⟩ := h
  exact (nextch_scan E s n xs w h).mono fun e w' ⟨he, hS, hF⟩ => ⟨he, ⟨_, hS, ha.next⟩, hF⟩
theorem next_at_end (E : Env) (p : List UInt8) (n : Nat) (xs : List Value) (w : World) (h : ScanAt w E p [] n xs) :
    Calls Tryd.prog 57 #[.pointer (some ⟨E.c.sb, 0, none⟩)] w fun e w' => e = .returned (.tuple #[]) ∧ ScanAt w' E p [] n xs ∧ GF E w w' := by
  obtain ⟨s, h, ha⟩ := h
  exact (nextch_scan E s n xs w h).mono fun e w' ⟨he, hS, hF⟩ => ⟨he, ⟨_, hS, ha.next_end⟩, hF⟩

/-- One is told more, at a place. -/
def MoreAt (E : Env) (p : List UInt8) (l : List Nat) (n : Nat) (xs : List Value) (m : ByteArray) (w : World) (e : Ending) (w' : World) : Prop :=
  e = .returned (.tuple #[]) ∧ (∃ a b : Int, ScanAt w' E p l (n + 1) (xs ++ [.int .u64 a, .int .u64 b, .string m])) ∧ GF E w w'
theorem More.at {E : Env} {s : St} {p : List UInt8} {l : List Nat} {n : Nat} {xs : List Value} {m : ByteArray} {w : World} {e : Ending} {w' : World} (h : More E s n xs m w e w') (ha : At s p l) : MoreAt E p l n xs m w e w' :=
  ⟨h.1, let ⟨a, b, hS⟩ := h.2.1; ⟨a, b, s, hS, ha⟩, h.2.2⟩
theorem errorf_at (E : Env) (p : List UInt8) (l : List Nat) (n : Nat) (xs : List Value) (m : ByteArray) (a : Option Addr) (al ac : Nat) (w : World) (h : ScanAt w E p l n xs) (hn : n < 100000) :
    Calls Tryd.prog 91 #[.pointer (some ⟨E.c.sb, 0, none⟩), .string m, .slice a al ac] w (MoreAt E p l n xs m w) := by
  obtain ⟨s, h, ha⟩ := h
  exact (errorf_calls E s n xs m a al ac w h hn).mono fun e w' hm => hm.at ha
theorem errorAtf_at (E : Env) (p : List UInt8) (l : List Nat) (n : Nat) (xs : List Value) (m : ByteArray) (mode l0 k0 off : Int) (a : Option Addr) (al ac : Nat) (w : World) (h : ScanAt w E p l n xs) (hn : n < 100000) (ht : Tail w E.c.sb mode l0 k0) :
    Calls Tryd.prog 79 #[.pointer (some ⟨E.c.sb, 0, none⟩), .int .i64 off, .string m, .slice a al ac] w (MoreAt E p l n xs m w) := by
  obtain ⟨s, h, ha⟩ := h
  exact (errorAtf_calls E s n xs m l0 k0 off a al ac w h hn ht.c13 ht.c14).mono fun e w' hm => hm.at ha
theorem comment_at (E : Env) (p : List UInt8) (l : List Nat) (n : Nat) (xs : List Value) (m : ByteArray) (mode l0 k0 : Int) (w : World) (h : ScanAt w E p l n xs) (hn : n < 100000) (ht : Tail w E.c.sb mode l0 k0) :
    Calls Tryd.prog 86 #[.pointer (some ⟨E.c.sb, 0, none⟩), .string m] w (MoreAt E p l n xs m w) := by
  obtain ⟨s, h, ha⟩ := h
  exact (comment_calls E s n xs m l0 k0 w h hn ht.c13 ht.c14).mono fun e w' hm => hm.at ha

/-- What setLit leaves, at a place. -/
structure LitAt (w : World) (E : Env) (p : List UInt8) (l : List Nat) (n : Nat) (xs : List Value) (mode l0 k0 kind : Int) (bad : Bool) : Prop where
  scan : ScanAt w E p l n xs
  tail : Tail w E.c.sb mode l0 k0
  lit : w.cell? ⟨E.c.sb, 17, none⟩ = some (.string ⟨p.toArray⟩)
  bad : w.cell? ⟨E.c.sb, 18, none⟩ = some (.bool bad)
  kind : w.cell? ⟨E.c.sb, 19, none⟩ = some (.int .u8 kind)
theorem setLit_at (E : Env) (p : List UInt8) (l : List Nat) (n : Nat) (xs : List Value) (mode l0 k0 kind : Int) (ok : Bool) (w : World) (h : ScanAt w E p l n xs) (ht : Tail w E.c.sb mode l0 k0) :
    Calls Tryd.prog 80 #[.pointer (some ⟨E.c.sb, 0, none⟩), .int .u8 kind, .bool ok] w fun e w' => e = .returned (.tuple #[]) ∧ LitAt w' E p l n xs mode l0 k0 kind (!ok) ∧ TK E w w' := by
  obtain ⟨s, h, ha⟩ := h
  refine (setLit_calls E s n xs mode l0 k0 kind ok w h ht ha.act ha.wide).mono fun e w' ⟨he, hL, hF⟩ => ⟨he, ⟨⟨s, hL.scan, ha⟩, hL.tail, ?_, hL.bad, hL.kind⟩, hF⟩
  rw [hL.lit, ha.seg]

end Go.Proofs.YtnehkpoggkfikaaDoor
