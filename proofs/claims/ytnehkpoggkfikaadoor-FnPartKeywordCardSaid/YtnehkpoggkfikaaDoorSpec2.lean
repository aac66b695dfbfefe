/-
  The walk through Without. Condition: the texts are no longer than 2^31.
-/
import Derived.Test.YtnehkpoggkfikaaDoorSpec1
namespace Go.Proofs.YtnehkpoggkfikaaDoor
open Go.RowKit
set_option linter.unusedVariables false

def NoneOf (s t : ByteArray) : Prop := ∀ (i : Nat) (hi : i < s.size) (k : Nat) (hk : k < t.size), s[i] ≠ t[k]
def NoneTo (s t : ByteArray) (n : Nat) : Prop := ∀ (i : Nat) (hi : i < s.size), i < n → ∀ (k : Nat) (hk : k < t.size), s[i] ≠ t[k]
def NoneAt (s t : ByteArray) (i : Nat) (m : Nat) : Prop := ∀ (hi : i < s.size) (k : Nat) (hk : k < t.size), k < m → s[i] ≠ t[k]
theorem none_next {s t : ByteArray} {n : Nat} (h : NoneTo s t n) (h2 : NoneAt s t n t.size) : NoneTo s t (n + 1) := fun i hi hn k hk => by
  by_cases e : i = n
  · subst e; exact h2 hi k hk hk
  · exact h i hi (by omega) k hk
theorem none_step {s t : ByteArray} {i m : Nat} (h : NoneAt s t i m) (h2 : ∀ (hi : i < s.size) (hm : m < t.size), s[i] ≠ t[m]) : NoneAt s t i (m + 1) := fun hi k hk hn => by
  by_cases e : k = m
  · subst e; exact h2 hi hk
  · exact h hi k hk (by omega)
theorem drewN_below (w : World) (n : Nat) : Below w.heap.size w (w.drewN n) := ⟨rfl, rfl, rfl, Nat.le_refl _, fun _ _ => rfl⟩

set_option maxHeartbeats 2000000 in
theorem without_calls (s t : ByteArray) (w : World) (hs : s.size ≤ 2147483647) (ht : t.size ≤ 2147483647) :
    Calls Tryd.prog 18 #[.string s, .string t] w (BoolPost (fun b => b = true → NoneOf s t) w) := by
  have hs' : (s.size : Int) ≤ 2147483647 := by omega
  have ht' : (t.size : Int) ≤ 2147483647 := by omega
  go_enter Tryd.func18, Tryd.ntmps18
  go_wp2
  go_loopg [5, 6] s.size (fun g i k wr => ∃ (n q : Nat) (k0 : Value), wr = w.drewN q ∧ g = s.size - n ∧ n ≤ s.size ∧ i = .int .i64 n ∧ k = k0 ∧ Hid (NoneTo s t n))
  case atStart => exact ⟨0, 0, _, rfl, rfl, by omega, rfl, rfl, fun i hi h => by omega⟩
  case round =>
    obtain ⟨n, q, k0, rfl, rfl, hn, rfl, rfl, hT⟩ := hrel
    by_cases hlt : n < s.size
    · have hlt' : (n : Int) < (s.size : Int) := by omega
      go_wp2
      go_loopg [6] t.size (fun g k wr => ∃ (m q2 : Nat), wr = w.drewN q2 ∧ g = t.size - m ∧ m ≤ t.size ∧ k = .int .i64 m ∧ Hid (NoneAt s t n m))
      case atStart => exact ⟨0, q, rfl, rfl, by omega, rfl, fun hi k hk h => by omega⟩
      case round =>
        obtain ⟨m, q2, rfl, rfl, hm, rfl, hA⟩ := hrel
        by_cases hmt : m < t.size
        · have hmt' : (m : Int) < (t.size : Int) := by omega
          have hst := Lib.hid (none_step hA.out)
          by_cases he : s[n].toNat = t[m].toNat
          · have t1 : (s[n].toNat == t[m].toNat) = true := by simp [he]
            have HE := Lib.hid he; clear he
            go_wp2
            go_quiet (fail)
            go_wp2
            go_ret
            exact bool_post (by simp) ((drewN_below w q2).trans (drewN_below (w.drewN q2) _))
          · have t1 : (s[n].toNat == t[m].toNat) = false := by simp [he]
            have HE : Hid (∀ (hi : n < s.size) (hm : m < t.size), s[n] ≠ t[m]) := fun _ _ e => he (by rw [e])
            clear he
            go_wp2
            go_quiet (fail)
            go_wp2
            go_roundg (t.size - (m + 1))
            case measure => omega
            case rel => exact ⟨m + 1, _, rfl, rfl, by omega, by go_num, hst.out HE.out⟩
        · obtain rfl : m = t.size := by omega
          have hnx := Lib.hid (none_next hT.out hA.out)
          go_wp2
          go_roundg (s.size - (n + 1))
          case measure => omega
          case rel => exact ⟨n + 1, _, _, rfl, rfl, by omega, by go_num, rfl, hnx.out⟩
    · obtain rfl : n = s.size := by omega
      go_wp2
      go_ret
      exact bool_post (fun _ => fun i hi k hk => hT.out i hi hi k hk) (drewN_below _ _)
end Go.Proofs.YtnehkpoggkfikaaDoor
