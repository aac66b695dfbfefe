/-
  A scanner at a place of its text, a segment active or not; the way to a line's end. Conditions: each law's own.
-/
import Derived.Test.YtnehkpoggkfikaaDoorAt
namespace Go.Proofs.YtnehkpoggkfikaaDoor
open Go.RowKit
set_option linter.unusedVariables false

/-- No segment is active; the characters from the one at hand on are l. -/
structure Off (s : St) (l : List Nat) : Prop where
  act : s.act = false
  ch : s.ch = chOf l
  chw : s.chw = (headOf l).length
  rest : s.rest = l.tail
theorem Off.next {s : St} {x : Nat} {l : List Nat} (h : Off s (x :: l)) : Off s.next l := by
  obtain ⟨act, ch, chw, rest⟩ := h
  simp only [List.tail_cons] at rest
  cases l with
  | nil => rw [St.next_nil rest]; exact ⟨act, rfl, rfl, rfl⟩
  | cons y m => rw [St.next_cons rest]; exact ⟨act, rfl, rfl, rfl⟩
theorem Off.next_end {s : St} (h : Off s []) : Off s.next [] := by
  obtain ⟨act, ch, chw, rest⟩ := h
  rw [St.next_nil rest]; exact ⟨act, rfl, rfl, rfl⟩
theorem At.off {s : St} {p : List UInt8} {l : List Nat} (h : At s p l) : Off s.stop l := ⟨rfl, h.ch, h.chw, h.rest⟩

/-- Both in one: a segment with its bytes, or none. -/
def Place (s : St) (o : Option (List UInt8)) (l : List Nat) : Prop := match o with | some p => At s p l | none => Off s l
def ScanP (w : World) (E : Env) (o : Option (List UInt8)) (l : List Nat) (n : Nat) (xs : List Value) : Prop := ∃ s, Scan w E s n xs ∧ Place s o l
theorem ScanP.ch {w : World} {E : Env} {o : Option (List UInt8)} {l : List Nat} {n : Nat} {xs : List Value} (h : ScanP w E o l n xs) : w.cell? ⟨E.c.sb, 9, none⟩ = some (.int .i32 (chOf l)) := by
  obtain ⟨s, h, ha⟩ := h
  have : s.ch = chOf l := by cases o with
    | none => exact Off.ch ha
    | some p => exact At.ch ha
  rw [← this]; exact h.ch
theorem next_p (E : Env) (o : Option (List UInt8)) (x : Nat) (l : List Nat) (n : Nat) (xs : List Value) (w : World) (h : ScanP w E o (x :: l) n xs) :
    Calls Tryd.prog 57 #[.pointer (some ⟨E.c.sb, 0, none⟩)] w fun e w' => e = .returned (.tuple #[]) ∧ ScanP w' E (o.map (· ++ enc x)) l n xs ∧ GF E w w' := by
  obtain ⟨s, h, ha⟩ := h
  refine (nextch_scan E s n xs w h).mono fun e w' ⟨he, hS, hF⟩ => ⟨he, ⟨_, hS, ?_⟩, hF⟩
  cases o with
  | none => exact Off.next ha
  | some p => exact At.next ha
theorem next_p_end (E : Env) (o : Option (List UInt8)) (n : Nat) (xs : List Value) (w : World) (h : ScanP w E o [] n xs) :
    Calls Tryd.prog 57 #[.pointer (some ⟨E.c.sb, 0, none⟩)] w fun e w' => e = .returned (.tuple #[]) ∧ ScanP w' E o [] n xs ∧ GF E w w' := by
  obtain ⟨s, h, ha⟩ := h
  refine (nextch_scan E s n xs w h).mono fun e w' ⟨he, hS, hF⟩ => ⟨he, ⟨_, hS, ?_⟩, hF⟩
  cases o with
  | none => exact Off.next_end ha
  | some p => exact At.next_end ha
theorem stop_p (E : Env) (p : List UInt8) (l : List Nat) (n : Nat) (xs : List Value) (w : World) (h : ScanAt w E p l n xs) (hp : p ≠ []) :
    Calls Tryd.prog 88 #[.pointer (some ⟨E.c.sb, 0, none⟩)] w fun e w' => e = .returned (.tuple #[]) ∧ ScanP w' E none l n xs ∧ GF E w w' := by
  obtain ⟨s, h, ha⟩ := h
  have hr : 0 < s.r := by
    obtain ⟨-, -, cur, -, -, -, hact⟩ := h.src
    rw [(hact ha.act).1, ha.all]
    have : 0 < p.length := List.length_pos_iff.2 hp
    simp; omega
  exact (stop_calls E s n xs w h hr).mono fun e w' ⟨he, hS, hF⟩ => ⟨he, ⟨_, hS, ha.off⟩, hF⟩
end Go.Proofs.YtnehkpoggkfikaaDoor
