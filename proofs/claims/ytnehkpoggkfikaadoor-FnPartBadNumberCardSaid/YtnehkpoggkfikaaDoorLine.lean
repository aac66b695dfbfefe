/-
  The walks to a line's end and over a remark that ends with its line. Conditions: each law's own.
-/
import Derived.Test.YtnehkpoggkfikaaDoorPlace
namespace Go.Proofs.YtnehkpoggkfikaaDoor
open Go.RowKit
set_option linter.unusedVariables false

/-- The way to a line's end: a line's characters read, none of them the line's end. -/
def LineTo (l done l' : List Nat) : Prop := l = done ++ l' ∧ 10 ∉ done
def LinePost (E : Env) (o : Option (List UInt8)) (l : List Nat) (n : Nat) (xs : List Value) (w : World) (e : Ending) (w' : World) : Prop :=
  e = .returned (.tuple #[]) ∧ ∃ a rest, l = a ++ rest ∧ 10 ∉ a ∧ (rest = [] ∨ ∃ r, rest = 10 :: r) ∧ ScanP w' E (o.map (· ++ encs a)) rest n xs ∧ GF E w w'

set_option maxRecDepth 100000 in
set_option maxHeartbeats 1000000 in
theorem skipLine_calls (E : Env) (o : Option (List UInt8)) (l : List Nat) (n : Nat) (xs : List Value) (w : World) (h : ScanP w E o l n xs) :
    Calls Tryd.prog 85 #[.pointer (some ⟨E.c.sb, 0, none⟩)] w (LinePost E o l n xs w) := by
  have H := Lib.hid h
  clear h
  go_enter Tryd.func85, Tryd.ntmps85
  go_wp2_with fail
  go_loopg [] l.length (fun g wr => ∃ done l', g = l'.length ∧ Hid (LineTo l done l') ∧ ScanP wr E (o.map (· ++ encs done)) l' n xs ∧ GF E w wr)
  case atStart => exact ⟨[], l, rfl, ⟨rfl, by simp⟩, by cases o <;> simpa [encs] using H.out, GF.refl E w⟩
  case round =>
    obtain ⟨done, l', rfl, hL, hS, hF⟩ := hrel
    have hch := hS.ch
    have HS := Lib.hid hS
    have HF := Lib.hid hF
    clear hS hF
    cases l' with
    | nil =>
      simp only [chOf] at hch
      go_wp2_with fail
      go_end0
      obtain ⟨a, b⟩ := hL.out
      exact ⟨rfl, done, [], a, b, .inl rfl, HS.out, HF.out⟩
    | cons x l' =>
      simp only [chOf] at hch
      by_cases hx : x = 10
      · subst hx
        go_wp2_with fail
        go_end0
        obtain ⟨a, b⟩ := hL.out
        exact ⟨rfl, done, _, a, b, .inr ⟨l', rfl⟩, HS.out, HF.out⟩
      · have hx1 : ((x : Int) == 10) = false := by simp; omega
        have hx2 : ¬ (x : Int) < 0 := by omega
        have hx3 : (x : Int) ≠ 10 := by omega
        have hx4 : (0 : Int) ≤ (x : Int) := by omega
        go_wp2_with (go_at_call 57; refine (next_p E _ x l' n xs _ HS.out).mono ?_; rintro e w2 ⟨rfl, hS2, hF2⟩)
        go_roundg l'.length
        case measure => simp
        case rel =>
          refine ⟨done ++ [x], l', rfl, ?_, ?_, HF.out.trans hF2⟩
          · obtain ⟨a, b⟩ := hL.out
            exact ⟨by simp [a], by simp [b, Ne.symm hx]⟩
          · have e : (o.map (· ++ encs done)).map (· ++ enc x) = o.map (· ++ encs (done ++ [x])) := by cases o <;> simp [encs_append, encs]
            rw [← e]; exact hS2
end Go.Proofs.YtnehkpoggkfikaaDoor
