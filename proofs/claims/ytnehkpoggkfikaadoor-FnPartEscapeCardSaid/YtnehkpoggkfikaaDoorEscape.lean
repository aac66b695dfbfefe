/-
  The walk through escape, whole. Condition: a scanner at a place of its text, fewer than 100000 errors told.
-/
import Derived.Test.YtnehkpoggkfikaaDoorEscU
import Derived.Test.YtnehkpoggkfikaaDoorEscO
import Derived.Test.YtnehkpoggkfikaaDoorEscP
namespace Go.Proofs.YtnehkpoggkfikaaDoor
open Go.RowKit
set_option linter.unusedVariables false

theorem escape_calls (E : Env) (q : Nat) (p : List UInt8) (l : List Nat) (e : Nat) (w : World) (hq : q = 34 ∨ q = 39) (hn : e < 100000) (h : SA w E p l e) :
    Calls Tryd.prog 90 #[.pointer (some ⟨E.c.sb, 0, none⟩), .int .i32 (q : Int)] w (EscPost E q p l e w) := by
  cases l with
  | nil => exact escape_eof E q p e w hq h
  | cons c l =>
    by_cases h1 : simpleEsc q c
    · exact escape_simple E q p c l e w hq h1 h
    by_cases h2 : 48 ≤ c ∧ c ≤ 55
    · have hc : c = 48 ∨ c = 49 ∨ c = 50 ∨ c = 51 ∨ c = 52 ∨ c = 53 ∨ c = 54 ∨ c = 55 := by omega
      rcases hc with rfl | rfl | rfl | rfl | rfl | rfl | rfl | rfl
      · exact escape_o0 E q p l e w hq hn h
      · exact escape_o1 E q p l e w hq hn h
      · exact escape_o2 E q p l e w hq hn h
      · exact escape_o3 E q p l e w hq hn h
      · exact escape_o4 E q p l e w hq hn h
      · exact escape_o5 E q p l e w hq hn h
      · exact escape_o6 E q p l e w hq hn h
      · exact escape_o7 E q p l e w hq hn h
    by_cases h3 : c = 120
    · subst h3; exact escape_x E q p l e w hq hn h
    by_cases h4 : c = 117
    · subst h4; exact escape_u E q p l e w hq hn h
    by_cases h5 : c = 85
    · subst h5; exact escape_U E q p l e w hq hn h
    exact escape_none E q p c l e w hq h1 h2 h3 h4 h5 hn h
theorem escape_is (E : Env) (q : Nat) (p : List UInt8) (l : List Nat) (e k : Nat) (g : Bool) (w : World) (hq : q = 34 ∨ q = 39) (hn : e < 100000) (hk : escE q l = (k, g)) (h : SA w E p l e) :
    Calls Tryd.prog 90 #[.pointer (some ⟨E.c.sb, 0, none⟩), .int .i32 (q : Int)] w fun en w' => en = .returned (.bool g) ∧ SA w' E (p ++ encs (l.take k)) (l.drop k) (e + er g) ∧ GF E w w' := by
  refine (escape_calls E q p l e w hq hn h).mono fun en w' hp => ?_
  unfold EscPost at hp
  rw [hk] at hp
  exact hp
end Go.Proofs.YtnehkpoggkfikaaDoor
