/-
  The walk through the statements' own Open: no star with a stroke right behind it. Condition: the text is no longer than 2^31.
-/
import Derived.Test.YtnehkpoggkfikaaDoorSpec2
namespace Go.Proofs.YtnehkpoggkfikaaDoor
open Go.RowKit
set_option linter.unusedVariables false

def OpenOf (s : ByteArray) : Prop := ∀ (i : Nat) (h : i + 1 < s.size), ¬ (s[i].toNat = 42 ∧ s[i + 1].toNat = 47)
def OpenUp (s : ByteArray) (n : Nat) : Prop := ∀ (i : Nat) (h : i + 1 < s.size), i < n → ¬ (s[i].toNat = 42 ∧ s[i + 1].toNat = 47)
theorem openUp_next {s : ByteArray} {n : Nat} (h : OpenUp s n) (hn : n + 1 < s.size) (h2 : ¬ (s[n].toNat = 42 ∧ s[n + 1].toNat = 47)) : OpenUp s (n + 1) := fun i hi hlt => by
  by_cases e : i = n
  · subst e; exact h2
  · exact h i hi (by omega)

set_option maxHeartbeats 2000000 in
theorem open_calls (s : ByteArray) (w : World) (hs : s.size ≤ 2147483647) : Calls Tryd.prog 23 #[.string s] w (BoolPost (fun b => b = true → OpenOf s) w) := by
  have hs' : (s.size : Int) ≤ 2147483647 := by omega
  go_enter Tryd.func23, Tryd.ntmps23
  go_wp2
  go_loopg [3] s.size (fun g i wr => ∃ (n : Nat), wr = w ∧ g = s.size - n ∧ n ≤ s.size ∧ i = .int .i64 n ∧ Hid (OpenUp s n))
  case atStart => exact ⟨0, rfl, rfl, by omega, rfl, fun i hi h => by omega⟩
  case round =>
    obtain ⟨n, rfl, rfl, hn, rfl, hT⟩ := hrel
    by_cases hlt : n + 1 < s.size
    · have hlt' : (n : Int) + 1 < (s.size : Int) := by omega
      have hl2 : n < s.size := by omega
      have hst := Lib.hid (openUp_next hT.out hlt)
      by_cases e1 : s[n].toNat = 42
      · have t1 : ((s[n].toNat : Int) == 42) = true := by simp [e1]
        by_cases e2 : s[n + 1].toNat = 47
        · have t2 : ((s[n + 1].toNat : Int) == 47) = true := by simp [e2]
          clear e1 e2 hst
          go_wp2
          go_ret
          exact bool_post (by simp) (Below.refl _ _)
        · have t2 : ((s[n + 1].toNat : Int) == 47) = false := by simp; omega
          have hnx := Lib.hid (hst.out (fun h => e2 h.2))
          clear e1 e2
          go_wp2
          go_roundg (s.size - (n + 1))
          case measure => omega
          case rel => exact ⟨n + 1, rfl, rfl, by omega, by go_num, hnx.out⟩
      · have t1 : ((s[n].toNat : Int) == 42) = false := by simp; omega
        have hnx := Lib.hid (hst.out (fun h => e1 h.1))
        clear e1
        go_wp2
        go_roundg (s.size - (n + 1))
        case measure => omega
        case rel => exact ⟨n + 1, rfl, rfl, by omega, by go_num, hnx.out⟩
    · have hlt' : ¬ (n : Int) + 1 < (s.size : Int) := by omega
      go_wp2
      go_ret
      exact bool_post (fun _ => fun i hi => hT.out i hi (by omega)) (Below.refl _ _)
end Go.Proofs.YtnehkpoggkfikaaDoor
