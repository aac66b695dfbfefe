/-
  The walk through rawString: a text between back quotes, ended or not. Conditions: the law's own.
-/
import Derived.Test.YtnehkpoggkfikaaDoorAt
namespace Go.Proofs.YtnehkpoggkfikaaDoor
open Go.RowKit
set_option linter.unusedVariables false

/-- Where a raw string stands, some of its characters read. -/
def RawTo (l done l' : List Nat) (p' : List UInt8) : Prop := l = done ++ l' ∧ 96 ∉ done ∧ p' = enc 96 ++ encs done
theorem rawTo_next {l done l' : List Nat} {p' : List UInt8} {x : Nat} (h : RawTo l done (x :: l') p') (hx : x ≠ 96) : RawTo l (done ++ [x]) l' (p' ++ enc x) := by
  obtain ⟨h1, h2, h3⟩ := h
  exact ⟨by simp [h1], by simp [h2, Ne.symm hx], by rw [h3, encs_append]; simp [encs]⟩

/-- What rawString gives: it ends at the first back quote; else one error more is told, and the literal is bad. -/
def RawPost (E : Env) (l : List Nat) (n : Nat) (xs : List Value) (mode l0 k0 : Int) (w : World) (e : Ending) (w' : World) : Prop :=
  e = .returned (.tuple #[]) ∧ TK E w w' ∧
  ((∃ pre post, l = pre ++ 96 :: post ∧ 96 ∉ pre ∧ LitAt w' E (enc 96 ++ encs pre ++ enc 96) post n xs mode l0 k0 4 false) ∨
   (96 ∉ l ∧ ∃ (a b : Int) (m : ByteArray), LitAt w' E (enc 96 ++ encs l) [] (n + 1) (xs ++ [.int .u64 a, .int .u64 b, .string m]) mode l0 k0 4 true))

set_option maxRecDepth 100000 in
set_option maxHeartbeats 2000000 in
theorem rawString_calls (E : Env) (l : List Nat) (n : Nat) (xs : List Value) (mode l0 k0 : Int) (w : World) (h : ScanAt w E [] (96 :: l) n xs) (hn : n < 100000) (ht : Tail w E.c.sb mode l0 k0) :
    Calls Tryd.prog 55 #[.pointer (some ⟨E.c.sb, 0, none⟩)] w (RawPost E l n xs mode l0 k0 w) := by
  have H := Lib.hid h
  have HT := Lib.hid ht
  clear h ht
  go_enter Tryd.func55, Tryd.ntmps55
  go_wp2_with (go_at_call 57; refine (next_at E [] 96 l n xs _ H.out).mono ?_; rintro e w1 ⟨rfl, h1, f1⟩)
  go_loopg [2] l.length (fun g ok wr => ok = .bool true ∧ ∃ done l' p', g = l'.length ∧ ScanAt wr E p' l' n xs ∧ Tail wr E.c.sb mode l0 k0 ∧ GF E w wr ∧ Hid (RawTo l done l' p'))
  case atStart => exact ⟨rfl, [], l, _, rfl, h1, HT.out.gf f1, f1, rfl, by simp, by simp [encs]⟩
  case round =>
    obtain ⟨rfl, done, l', p', rfl, hS, hT, hF, hR⟩ := hrel
    have hch := hS.ch
    have HS := Lib.hid hS
    have HT2 := Lib.hid hT
    have HF := Lib.hid hF
    clear f1 h1 hS hT hF
    cases l' with
    | nil =>
      simp only [chOf] at hch
      have HL : Hid (96 ∉ l ∧ p' = enc 96 ++ encs l) := by
        obtain ⟨a, b, c⟩ := hR.out
        simp only [List.append_nil] at a
        subst a; exact ⟨b, c⟩
      go_wp2_with (first | (go_at_call 79; refine (errorAtf_at E p' [] n xs _ mode l0 k0 _ _ _ _ _ HS.out hn HT2.out).mono ?_; rintro e w2 ⟨rfl, ⟨a, b, hS2⟩, hF2⟩; have hT3 := HT2.out.gf hF2) | (go_at_call 80; refine (setLit_at E p' [] (n + 1) _ mode l0 k0 _ _ _ hS2 hT3).mono ?_; rintro e w3 ⟨rfl, hL, hK⟩))
      go_end0
      exact ⟨rfl, (HF.out.trans hF2).tk.trans hK, .inr ⟨HL.out.1, _, _, _, HL.out.2 ▸ hL⟩⟩
    | cons x l' =>
      simp only [chOf] at hch
      by_cases hx : x = 96
      · subst hx
        have HL : Hid (∃ pre, l = pre ++ 96 :: l' ∧ 96 ∉ pre ∧ p' = enc 96 ++ encs pre) := ⟨done, hR.out⟩
        go_wp2_with (first | (go_at_call 57; refine (next_at E p' 96 l' n xs _ HS.out).mono ?_; rintro e w2 ⟨rfl, hS2, hF2⟩; have hT3 := HT2.out.gf hF2) | (go_at_call 80; refine (setLit_at E _ l' n _ mode l0 k0 _ _ _ hS2 hT3).mono ?_; rintro e w3 ⟨rfl, hL, hK⟩))
        go_end0
        obtain ⟨pre, a, b, c⟩ := HL.out
        refine ⟨rfl, (HF.out.trans hF2).tk.trans hK, .inl ⟨pre, l', a, b, ?_⟩⟩
        rw [← c]; exact hL
      · have hx1 : ((x : Int) == 96) = false := by simp; omega
        have hx2 : ¬ (x : Int) < 0 := by omega
        have hnx := Lib.hid (rawTo_next hR.out hx)
        clear hx
        go_wp2_with (go_at_call 57; refine (next_at E p' x l' n xs _ HS.out).mono ?_; rintro e w2 ⟨rfl, hS2, hF2⟩)
        go_roundg l'.length
        case measure => simp
        case rel => exact ⟨rfl, done ++ [x], l', _, rfl, hS2, HT2.out.gf hF2, HF.out.trans hF2, hnx.out⟩

end Go.Proofs.YtnehkpoggkfikaaDoor
