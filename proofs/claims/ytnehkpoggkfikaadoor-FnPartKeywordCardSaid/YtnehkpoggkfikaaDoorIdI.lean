/-
  The thin package's reader of names. Conditions: the law's own.
-/
import Derived.Test.YtnehkpoggkfikaaDoorIdD
namespace Go.Proofs.YtnehkpoggkfikaaDoor
open Go.RowKit
set_option linter.unusedVariables false

theorem no_told {w : World} {B : Nat} {v : Value} {l' : List Note} (htx : l'.map (·.2.2) = ([] : List Note).map (·.2.2)) (h : w.ownsRow B 36 3 v l'.length (cellsI l')) : ∃ a c, v = .slice a 0 c := by
  have e : l' = [] := by simpa using htx
  subst e
  exact ownsRow_slice h
/-- What the thin package's reader of names gives. -/
def ImplI (lit : List UInt8) (more : List Nat) (w : World) (e : Ending) (w' : World) : Prop := ∃ word l17 ta tc, IdRes lit word l17 ∧
  e = .returned (.tuple #[.agg #[.string l17, .int .i64 0, .bool false, .int .i64 (chOf more), .slice ta 0 tc], .string word]) ∧ Below w.heap.size w w'
set_option maxRecDepth 100000 in
set_option maxHeartbeats 1000000 in
theorem implIdent_calls (src : ByteArray) (x : Nat) (a more : List Nat) (ea : Addr) (w : World) (hG : Glob w ea) (hTb : Tabs w) (hok : okAll (x :: (a ++ more))) (hs : src.data.toList = encs (x :: (a ++ more))) (hmax : (src.size : Int) ≤ 1900) (hw : 12 ≤ w.heap.size)
    (ha : ∀ c ∈ a, idc c = true) (hm : Bhd more) : Calls Tryd.prog 33 #[.string src] w (ImplI (enc x ++ encs a) more w) := by
  have hcv := fun w s => run_bytes_of_string (P := Tryd.prog) w 9 41 5 s Tryd.underlying9 Tryd.underlying41 Tryd.underlying5
  have HG := Lib.hid hG
  have HTB := Lib.hid hTb
  have HOK := Lib.hid hok
  have HS := Lib.hid hs
  have HA := Lib.hid ha
  have HM := Lib.hid hm
  have hn : Hid (src.size = (encs (x :: (a ++ more))).length) := by have := congrArg List.length hs; rw [Array.length_toList] at this; exact this
  have hcb : Hid (-2147483648 ≤ chOf more ∧ chOf more ≤ 2147483647) := chOf_bounds fun y hy => hok y (by simp [hy])
  clear hG hTb hok hs ha hm
  go_enter Tryd.func33, Tryd.ntmps33
  go_wp2_with fail
  have hcap := grownCap_ge (w.alloc ipart0) src.size 0 5
  have hX : Hid (∃ cap, cap = grownCap (w.alloc ipart0) src.size 0 5) := ⟨_, rfl⟩
  obtain ⟨cap, hce⟩ := hX.out
  have HD := Lib.hid (srcAt cap HG.out HS.out)
  rw [← hce] at hcap
  go_at_call 50
  change Calls Tryd.prog 50 #[.slice (some ⟨w.heap.size + 1, 0, none⟩) src.size (grownCap (w.alloc ipart0) src.size 0 5)] (srcW w src (grownCap (w.alloc ipart0) src.size 0 5)) _
  rw [← hce]
  have HT1 : Hid (Tabs (srcW w src cap)) := HTB.out.below hw HD.out.old
  refine (zzIdent_calls (w.heap.size + 1) src.size cap x a more ea (srcW w src cap) HD.out.glob HT1.out HOK.out hn.out hmax (Int.ofNat_le.2 hcap) (by rw [HD.out.size]; omega) HD.out.text HA.out HM.out).mono ?_
  rintro e w2 ⟨word, l17, ta, tc, B, hR, rfl, hrow, hBel⟩
  have hR := Lib.hid hR
  have hrow := Lib.hid hrow
  have hBel := Lib.hid hBel
  have hW3 : ∀ o : Obj, Below (srcW w src cap).heap.size (srcW w src cap) (w2.alloc o) := fun o => hBel.out.alloc hBel.out.size o
  have hR3 : ∀ o : Obj, (w2.alloc o).ownsRow B 61 3 (.slice ta 0 tc) ([] : List Note).length (cellsU []) := fun o => ownsRow_of_block hrow.out fun g _ hlt => by
    show (w2.heap.push o)[g]? = _
    rw [Array.getElem?_push, if_neg (by omega)]
  have HW3 := Lib.hid hW3
  have HR3 := Lib.hid hR3
  clear hW3 hR3
  go_wp2_with (go_at_call 35; refine (partOf_row l17 0 (chOf more) false [] _ B _ hcb.out.1 hcb.out.2 (by simp) (HR3.out _)).mono ?_; rintro e w3 ⟨v, l', rfl, htx, hrow3, hBel3⟩; obtain ⟨ta3, tc3, rfl⟩ := no_told htx hrow3; obtain ⟨r0, r1, r2, r3, r4, rf, hB4⟩ := implEnd HD.out (HW3.out _) hBel3; have hB4 := Lib.hid hB4; clear hBel3 hrow3 htx)
  refine bodyPost_ret (v := .tuple #[.agg #[.string l17, .int .i64 0, .bool false, .int .i64 (chOf more), .slice ta3 0 tc3], .string word]) (by simp [results, Tryd.results33, go_sem, r0, r1, r2, r3, r4]) rfl ?_
  exact ⟨word, l17, ta3, tc3, hR.out, rfl, ((((hB4.out.setCell (Nat.le_refl _) _).setCell (Nat.le_refl _) _).setCell (Nat.le_refl _) _).setCell (Nat.le_refl _) _).setCell (Nat.le_refl _) _⟩
end Go.Proofs.YtnehkpoggkfikaaDoor
