/-
  The walk through the specification's own Index: a text's first place in another. Condition: the texts are no longer than 100000 bytes.
-/
import Derived.Test.YtnehkpoggkfikaaDoorProg
import Derived.WalkKit
import Derived.WalkSpells
import Derived.WalkLawsBesides
import Derived.Outline
import Derived.Lib.Hide
import Derived.Deep.LoopGhost
namespace Go.Proofs.YtnehkpoggkfikaaDoor
open Go.RowKit
set_option linter.unusedVariables false

/-- The text x stands nowhere in s ahead of the place n. -/
def NotUp (s x : ByteArray) (n : Nat) : Prop := ∀ i, i < n → i + x.size ≤ s.size → s.extract i (i + x.size) ≠ x
theorem notUp_next {s x : ByteArray} {n : Nat} (h : NotUp s x n) (h2 : s.extract n (n + x.size) ≠ x) : NotUp s x (n + 1) := fun i hi hle => by
  by_cases e : i = n
  · subst e; exact h2
  · exact h i (by omega) hle
theorem notUp_end {s x : ByteArray} {n : Nat} (h : NotUp s x n) (h2 : ¬ n + x.size ≤ s.size) : NotUp s x (s.size + 1) := fun i hi hle => h i (by omega) hle
/-- What Index gives: below nought, the text stands nowhere. -/
def IdxQ (s x : ByteArray) (w : World) (e : Ending) (w' : World) : Prop := (∃ z : Int, e = .returned (.int .i64 z) ∧ (z < 0 → NotUp s x (s.size + 1))) ∧ w = w'

set_option maxHeartbeats 2000000 in
theorem index_calls (s x : ByteArray) (w : World) (hs : s.size ≤ 100000) (hx : x.size ≤ 100000) : Calls Tryd.prog 69 #[.string s, .string x] w (IdxQ s x w) := by
  have hs' : (s.size : Int) ≤ 100000 := by omega
  have hx' : (x.size : Int) ≤ 100000 := by omega
  go_enter Tryd.func69, Tryd.ntmps69
  go_wp2
  go_loopg [5] (s.size + 1) (fun g i wr => ∃ (n : Nat), wr = w ∧ g = s.size + 1 - n ∧ n ≤ s.size + 1 ∧ i = .int .i64 n ∧ Hid (NotUp s x n))
  case atStart => exact ⟨0, rfl, rfl, by omega, rfl, fun i h => by omega⟩
  case round =>
    obtain ⟨n, rfl, rfl, hn, rfl, hT⟩ := hrel
    by_cases hlt : n + x.size ≤ s.size
    · have hlt' : (n : Int) + (x.size : Int) ≤ (s.size : Int) := by omega
      obtain ⟨y, hy⟩ : ∃ y, s.extract n (n + x.size) = y := ⟨_, rfl⟩
      have HY := Lib.hid hy
      go_wp2_with fail
      · rename_i hq
        go_ret
        exact ⟨⟨n, rfl, fun h => by omega⟩, rfl⟩
      · rename_i hq
        have HN := Lib.hid (notUp_next hT.out (fun e => by rw [hy] at e; rw [e] at hq; simp at hq))
        go_roundg (s.size + 1 - (n + 1))
        case measure => omega
        case rel => exact ⟨n + 1, rfl, rfl, by omega, by go_num, HN.out⟩
    · have hlt' : ¬ (n : Int) + (x.size : Int) ≤ (s.size : Int) := by omega
      have HN := Lib.hid (notUp_end hT.out hlt)
      go_wp2
      go_ret
      exact ⟨⟨-1, rfl, fun _ => HN.out⟩, rfl⟩
end Go.Proofs.YtnehkpoggkfikaaDoor
