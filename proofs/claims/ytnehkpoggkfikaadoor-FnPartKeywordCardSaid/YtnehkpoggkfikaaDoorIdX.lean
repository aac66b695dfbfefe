/-
  The specification's Words, walked: the words of a text between blanks. Conditions: each law's own.
-/
import Derived.Test.YtnehkpoggkfikaaDoorIdS
import Derived.Test.YtnehkpoggkfikaaDoorPart
namespace Go.Proofs.YtnehkpoggkfikaaDoor
open Go.RowKit
set_option linter.unusedVariables false

/-- The words that end ahead of a place, and where the next begins. -/
def wS (W : ByteArray) : Nat → List ByteArray × Nat
  | 0 => ([], 0)
  | k + 1 => if bAt W k = 32 then ((wS W k).1 ++ [W.extract (wS W k).2 k], k + 1) else wS W k
theorem wS_le (W : ByteArray) : ∀ k, (wS W k).2 ≤ k ∧ (wS W k).1.length ≤ k := by
  intro k
  induction k with
  | zero => exact ⟨Nat.le_refl _, by simp [wS]⟩
  | succ k ih =>
    unfold wS
    split
    · exact ⟨Nat.le_refl _, by simp; omega⟩
    · exact ⟨by omega, by omega⟩
def wAll (W : ByteArray) : List ByteArray := (wS W W.size).1 ++ [W.extract (wS W W.size).2 W.size]
theorem info9 : (Tryd.prog.info? 9).map (fun i => (i.zero, i.size, i.bytes)) = some (some (.string ByteArray.empty), 1, 16) := by kernel_rfl
/-- The words so far, as a row. -/
def WAt (w wr : World) (v : Value) (xs : List ByteArray) : Prop := wr.ownsRow w.heap.size 9 1 v xs.length (xs.map Value.string) ∧ Below w.heap.size w wr
def WordsPost (xs : List ByteArray) (w : World) (e : Ending) (w' : World) : Prop := ∃ v, e = .returned v ∧ WAt w w' v xs
theorem new_cell1 (w : World) (v : Value) (t : TypeId) : ∀ (j : Nat) (u : Value), [v][j]? = some u → (w.alloc (.cells #[v] t)).cell? ((⟨w.heap.size, 0, none⟩ : Addr).add j) = some u := by
  intro j u hu
  cases j with
  | zero =>
    simp at hu; subst hu
    simp only [Addr.add]
    unfold World.cell?
    show (match (w.alloc (.cells #[v] t)).heap[w.heap.size]? with | some (.cells cs ..) => cs[0 + 0]? | _ => none) = _
    rw [(MapKept.heap_alloc w _).1]; rfl
  | succ j => simp at hu
theorem wAt_grow {w wr w' : World} {v v' : Value} {xs : List ByteArray} {x : ByteArray} {o : Obj} (h : WAt w wr v xs) (hown : w'.ownsRow w.heap.size 9 1 v' (xs.length + 1) (xs.map Value.string ++ [.string x])) (hg : (wr.alloc o).grownBy w' v.ownBlock) : WAt w w' v' (xs ++ [x]) := by
  refine ⟨by simpa using hown, (h.2.alloc h.2.size o).grown hg (by have := h.2.size; simp; omega) (fun j hj => (h.1.lt j hj).1)⟩

set_option maxRecDepth 100000 in
set_option maxHeartbeats 2000000 in
theorem words_calls (W : ByteArray) (w : World) (hs : W.size ≤ 2000) : Calls Tryd.prog 32 #[.string W] w (WordsPost (wAll W) w) := by
  obtain ⟨i0, hi, hz0, hz1, hz2⟩ := info_parts info9
  have HI := Lib.hid hi
  have HZ := Lib.hid (And.intro hz0 (And.intro hz1 hz2))
  have hs' : (W.size : Int) ≤ 2000 := by omega
  have H0 : Hid (WAt w (w.alloc (.cells #[] 9)) (.slice (some ⟨w.heap.size, 0, none⟩) 0 0) []) := ⟨World.ownsRow_lit (base := w.heap.size) (size := 1) (e := 9) w #[] 0 (Nat.le_refl _) (by unfold maxLen; omega) rfl, (Below.refl _ _).alloc (Nat.le_refl _) _⟩
  clear hi hz0 hz1 hz2
  go_enter Tryd.func32, Tryd.ntmps32
  go_wp2_with fail
  go_loopw [3, 4, 5] (fun v f i wr => ∃ (k : Nat) (v0 : Value), v = v0 ∧ (k : Int) ≤ (W.size : Int) ∧ i = .int .i64 k ∧ f = .int .i64 ((wS W k).2 : Nat) ∧ Hid (WAt w wr v0 (wS W k).1)) (fun _ _ i _ => W.size - (intOf i).toNat)
  case atStart => exact ⟨0, _, rfl, by omega, rfl, rfl, H0.out⟩
  case round =>
    obtain ⟨k, v, rfl, hk, rfl, rfl, hW⟩ := hrel
    have hle := wS_le W k
    have HL := Lib.hid hle.2
    generalize hf : (wS W k).2 = f at hle ⊢
    have hfk : (f : Int) ≤ (k : Int) := by omega
    have HF := Lib.hid hf
    clear hle hf
    by_cases hlt : k < W.size
    · have hlt' : (k : Int) < (W.size : Int) := by omega
      have eB : Hid (bAt W k = (W[k].toNat : Int)) := by show _ = _; unfold bAt; rw [dif_pos hlt]
      by_cases h32 : W[k].toNat = 32
      · have t32 : ((W[k].toNat : Int) == 32) = true := by simp; omega
        have HS : Hid (wS W (k + 1) = ((wS W k).1 ++ [W.extract f k], k + 1)) := by
          show _ = _
          rw [← HF.out]
          conv => lhs; unfold wS
          rw [if_pos (by rw [eB.out]; omega)]
        clear h32
        go_wp2_with (at_builtin; refine wpList_append_own _ rfl (.tmp 17) (.tmp 22) 32 rfl w.heap.size 9 i0 _ 1 16 Tryd.underlying32 HI.out HZ.out.1 HZ.out.2.1 HZ.out.2.2 rfl (by decide) _ _ _ rfl (hW.out.1.alloc _) ⟨wr.heap.size, 0, none⟩ 1 1 [.string (W.extract f k)] rfl rfl ?c1z1 ?c2z1 ?c3z1 ?c4z1 ?c5z1 ?nextz1)
        any_goals (first | exact new_cell1 _ _ _ | skip)
        case c2z1 => simp [Value.oneCell']
        case c3z1 => have := HL.out; unfold maxLen; omega
        case c4z1 => have := HL.out; omega
        case c5z1 => have := hW.out.2.size; simp; omega
        case nextz1 =>
          intro v' w1 hown hgrow _
          have hW2 := Lib.hid (wAt_grow hW.out hown hgrow)
          clear hown hgrow
          go_wp2_with fail
          go_roundw
          case rel => exact ⟨k + 1, v', rfl, by omega, by go_num, by rw [HS.out]; show _ = Value.int .i64 ((k + 1 : Nat) : Int); go_num, by rw [HS.out]; exact hW2.out⟩
          case measure => simp [intOf]; omega
      · have t32 : ((W[k].toNat : Int) == 32) = false := by simp; omega
        have HS : Hid (wS W (k + 1) = wS W k) := by
          show _ = _
          conv => lhs; unfold wS
          rw [if_neg (by rw [eB.out]; omega)]
        clear h32
        go_wp2_with fail
        go_roundw
        case rel => exact ⟨k + 1, _, rfl, by omega, by go_num, by rw [HS.out, HF.out], by rw [HS.out]; exact hW.out⟩
        case measure => simp [intOf]; omega
    · obtain rfl : k = W.size := by omega
      go_wp2_with (at_builtin; refine wpList_append_own _ rfl (.tmp 26) (.tmp 30) 32 rfl w.heap.size 9 i0 _ 1 16 Tryd.underlying32 HI.out HZ.out.1 HZ.out.2.1 HZ.out.2.2 rfl (by decide) _ _ _ rfl (hW.out.1.alloc _) ⟨wr.heap.size, 0, none⟩ 1 1 [.string (W.extract f W.size)] rfl rfl ?c1z2 ?c2z2 ?c3z2 ?c4z2 ?c5z2 ?nextz2)
      any_goals (first | exact new_cell1 _ _ _ | skip)
      case c2z2 => simp [Value.oneCell']
      case c3z2 => have := HL.out; unfold maxLen; omega
      case c4z2 => have := HL.out; omega
      case c5z2 => have := hW.out.2.size; simp; omega
      case nextz2 =>
        intro v' w1 hown hgrow _
        have hW2 : Hid (WAt w w1 v' (wAll W)) := by
          show WAt _ _ _ _
          unfold wAll
          rw [HF.out]
          exact wAt_grow hW.out hown hgrow
        clear hown hgrow
        go_wp2_with fail
        go_ret
        exact ⟨v', rfl, hW2.out⟩
end Go.Proofs.YtnehkpoggkfikaaDoor
