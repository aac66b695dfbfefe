/-
  The small functions on names, walked: hash, the tokens' names, the keyword of a hash, letters. Conditions: each law's own.
-/
import Derived.Test.YtnehkpoggkfikaaDoorIdP
import Derived.Deep.LoopGhost
namespace Go.Proofs.YtnehkpoggkfikaaDoor
open Go.RowKit
set_option linter.unusedVariables false

theorem ret_str {a b : ByteArray} (h : a = b) : Ending.returned (.string a) = .returned (.string b) := by rw [h]
set_option maxRecDepth 100000 in
theorem hash_calls (b len cap : Nat) (x y : Nat) (w : World) (hx : (x : Int) < 256) (hy : (y : Int) < 256) (h0 : w.cell? ⟨b, 0, none⟩ = some (.int .u8 (x : Int))) (h1 : w.cell? ⟨b, 1, none⟩ = some (.int .u8 (y : Int))) (hl : (2 : Int) ≤ (len : Int)) (hl2 : (len : Int) ≤ 100000) :
    Calls Tryd.prog 103 #[.slice (some ⟨b, 0, none⟩) len cap] w fun e w' => e = .returned (.int .u64 (hashV x y len)) ∧ ∃ k, w' = w.drewN k := by
  go_enter Tryd.func103, Tryd.ntmps103
  go_wp2
  go_quiet (fail)
  go_wp2
  go_ret
  exact ⟨rfl, _, rfl⟩
set_option maxRecDepth 100000 in
theorem tokStr_calls (t : Nat) (w : World) (h : Tabs w) (ht : t = 2 ∨ 22 ≤ t) (h0 : (1 : Int) ≤ (t : Int)) (h1 : (t : Int) ≤ 46) :
    Calls Tryd.prog 104 #[.int .u64 (t : Int)] w fun e w' => e = .returned (.string (kwS t)) ∧ ∃ k, w' = w.drewN k := by
  have c0 := h.idx (t - 1) (by omega)
  have c1 := h.idx t (by omega)
  have e1 : IntKind.u64.wrap ((t : Int) - 1) = (t : Int) - 1 := IntWalk.u64_in _ (by omega)
  have e2 : ((t : Int) - 1).toNat = t - 1 := by omega
  have h3 : (t : Int) - 1 < 48 := by omega
  have h4 : (t : Int) < 48 := by omega
  have hm := tix_mono ⟨t - 1, by omega⟩
  simp only [show t - 1 + 1 = t by omega] at hm
  obtain ⟨m1, m2⟩ := hm
  have m3 : (tix (t - 1) : Int) ≤ (tix t : Int) := by omega
  have m4 : (tix t : Int) ≤ 171 := by omega
  go_enter Tryd.func104, Tryd.ntmps104
  go_wp2
  go_quiet (fail)
  go_wp2
  go_ret
  refine ⟨?_, _, rfl⟩
  clear c0 c1 e1 e2 h3 h4 m1 m2 m3 m4
  rcases (by omega : t = 2 ∨ t = 22 ∨ t = 23 ∨ t = 24 ∨ t = 25 ∨ t = 26 ∨ t = 27 ∨ t = 28 ∨ t = 29 ∨ t = 30 ∨ t = 31 ∨ t = 32 ∨ t = 33 ∨ t = 34 ∨ t = 35 ∨ t = 36 ∨ t = 37 ∨ t = 38 ∨ t = 39 ∨ t = 40 ∨ t = 41 ∨ t = 42 ∨ t = 43 ∨ t = 44 ∨ t = 45 ∨ t = 46) with rfl | rfl | rfl | rfl | rfl | rfl | rfl | rfl | rfl | rfl | rfl | rfl | rfl | rfl | rfl | rfl | rfl | rfl | rfl | rfl | rfl | rfl | rfl | rfl | rfl | rfl
  all_goals exact ret_str (by decide +kernel)
set_option maxRecDepth 100000 in
theorem string_calls (t : Nat) (w : World) (h : Tabs w) (ht : t = 2 ∨ 22 ≤ t) (h0 : (1 : Int) ≤ (t : Int)) (h1 : (t : Int) ≤ 46) :
    Calls Tryd.prog 71 #[.int .u64 (t : Int)] w fun e w' => e = .returned (.string (kwS t)) ∧ ∃ k, w' = w.drewN k := by
  have c0 := h.idx (t - 1) (by omega)
  have c1 := h.idx t (by omega)
  have e2 : ((t : Int) - 1).toNat = t - 1 := by omega
  have h3 : (t : Int) - 1 < 48 := by omega
  have h4 : (t : Int) < 48 := by omega
  have g1 : decide ((t : Int) < 1) = false := by simp; omega
  have g2 : decide ((47 : Int) ≤ (t : Int) - 1) = false := by simp; omega
  have hm := tix_mono ⟨t - 1, by omega⟩
  simp only [show t - 1 + 1 = t by omega] at hm
  obtain ⟨m1, m2⟩ := hm
  have m3 : (tix (t - 1) : Int) ≤ (tix t : Int) := by omega
  have m4 : (tix t : Int) ≤ 171 := by omega
  go_enter Tryd.func71, Tryd.ntmps71
  go_wp2
  go_quiet (fail)
  go_wp2
  go_ret
  refine ⟨?_, _, rfl⟩
  clear c0 c1 e2 h3 h4 m1 m2 m3 m4
  rcases (by omega : t = 2 ∨ t = 22 ∨ t = 23 ∨ t = 24 ∨ t = 25 ∨ t = 26 ∨ t = 27 ∨ t = 28 ∨ t = 29 ∨ t = 30 ∨ t = 31 ∨ t = 32 ∨ t = 33 ∨ t = 34 ∨ t = 35 ∨ t = 36 ∨ t = 37 ∨ t = 38 ∨ t = 39 ∨ t = 40 ∨ t = 41 ∨ t = 42 ∨ t = 43 ∨ t = 44 ∨ t = 45 ∨ t = 46) with rfl | rfl | rfl | rfl | rfl | rfl | rfl | rfl | rfl | rfl | rfl | rfl | rfl | rfl | rfl | rfl | rfl | rfl | rfl | rfl | rfl | rfl | rfl | rfl | rfl | rfl
  all_goals exact ret_str (by decide +kernel)
end Go.Proofs.YtnehkpoggkfikaaDoor
