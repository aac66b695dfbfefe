/-
  The walks through the statements' own small functions: TextOk, Without, Behind. Conditions: each law's own.
-/
import Derived.Test.YtnehkpoggkfikaaDoorProg
import Derived.Test.YtnehkpoggkfikaaDoorText
import Derived.WalkKit
import Derived.WalkSpells
import Derived.WalkLawsBesides
import Derived.Outline
import Derived.Deep.QuietTactic
import Derived.BigQuiet
import Derived.Lib.Hide
import Derived.Deep.LoopGhost
import Derived.Lib.RuneCount
namespace Go.Proofs.YtnehkpoggkfikaaDoor
open Go.RowKit
set_option linter.unusedVariables false

/-- A text of characters that the statements speak of, at most 60 bytes. -/
def IsText (s : ByteArray) : Prop := ∃ rs, s.data.toList = encs rs ∧ okAll rs ∧ s.size ≤ 60
def BoolPost (P : Bool → Prop) (w : World) (e : Ending) (w' : World) : Prop := (∃ b, e = .returned (.bool b) ∧ P b) ∧ Below w.heap.size w w'
theorem bool_post {P : Bool → Prop} {w w' : World} {b : Bool} (h : P b) (hb : Below w.heap.size w w') : BoolPost P w (.returned (.bool b)) w' := ⟨⟨b, rfl, h⟩, hb⟩
theorem below_iter (w : World) (s : ByteArray) (pos : Nat) : Below w.heap.size w (w.iter s pos) :=
  (Below.refl _ _).alloc (Nat.le_refl _) _

theorem text_step {s : ByteArray} {pos : Nat} {rs : List Nat} (hp : pos < s.size) (ht : s.data.toList.take pos = encs rs) (ho : okAll rs)
    (h1 : (Utf8.decode s pos).1 ≠ 65533) (h2 : (Utf8.decode s pos).1 ≠ 0) (h3 : (Utf8.decode s pos).1 ≠ 65279) :
    pos + (Utf8.decode s pos).2 ≤ s.size ∧ s.data.toList.take (pos + (Utf8.decode s pos).2) = encs (rs ++ [(Utf8.decode s pos).1]) ∧ okAll (rs ++ [(Utf8.decode s pos).1]) := by
  obtain ⟨hok, hlen, hd⟩ := drop_enc s pos hp (.inr ⟨h2, h3, h1⟩)
  have hsz : s.data.toList.length = s.size := rfl
  have hl := congrArg List.length hd
  simp only [List.length_drop, List.length_append] at hl
  refine ⟨by omega, ?_, okAll_append.2 ⟨ho, by intro r hr; simp at hr; subst hr; exact hok⟩⟩
  rw [List.take_add, ht, encs_append, hd, hlen, List.take_left' rfl]
  simp [encs]

set_option maxHeartbeats 1000000 in
theorem textok_calls (s : ByteArray) (w : World) (hs : s.size ≤ 2147483647) :
    Calls Tryd.prog 17 #[.string s] w (BoolPost (fun b => b = true → IsText s) w) := by
  have hs' : (s.size : Int) ≤ 2147483647 := by omega
  go_enter Tryd.func17, Tryd.ntmps17
  go_wp2
  go_loopg [] s.size (fun g wr => ∃ pos rs, wr = w.iter s pos ∧ g = s.size - pos ∧ Hid (pos ≤ s.size ∧ s.data.toList.take pos = encs rs ∧ okAll rs))
  case atStart => exact ⟨0, [], rfl, rfl, by omega, rfl, okAll_nil⟩
  case round =>
    obtain ⟨pos, rs, rfl, rfl, hT⟩ := hrel
    by_cases hp : pos < s.size
    · have hnx : ∀ ty, (Instr.next (.pointer (some ⟨w.heap.size, 0, none⟩)) true ty).run Tryd.prog (w.iter s pos) = _ := fun ty => run_next_any w s pos ty hp
      have hwd := Lib.decode_width_pos s pos hp
      have hst := Lib.hid (text_step hp hT.out.2.1 hT.out.2.2)
      generalize Utf8.decode s pos = d at *
      obtain ⟨d1, d2⟩ := d
      simp only at hnx hwd hst
      by_cases h1 : d1 = 65533
      · have t1 : ((d1 : Int) == 65533) = true := by simp; omega
        have H1 := Lib.hid h1; clear h1
        go_wp2
        go_ret
        exact bool_post (by simp) (below_iter _ _ _)
      have t1 : ((d1 : Int) == 65533) = false := by simp; omega
      by_cases h2 : d1 = 0
      · have t2 : ((d1 : Int) == 0) = true := by simp; omega
        have H2 := Lib.hid h2; clear h2 h1
        go_wp2
        go_ret
        exact bool_post (by simp) (below_iter _ _ _)
      have t2 : ((d1 : Int) == 0) = false := by simp; omega
      by_cases h3 : d1 = 65279
      · have t3 : ((d1 : Int) == 65279) = true := by simp; omega
        have H3 := Lib.hid h3; clear h3 h1 h2
        go_wp2
        go_ret
        exact bool_post (by simp) (below_iter _ _ _)
      have t3 : ((d1 : Int) == 65279) = false := by simp; omega
      have HN := Lib.hid (And.intro h1 (And.intro h2 h3)); clear h1 h2 h3
      go_wp2
      go_roundg (s.size - (pos + d2))
      case measure => omega
      case rel => exact ⟨pos + d2, rs ++ [d1], rfl, rfl, hst.out HN.out.1 HN.out.2.1 HN.out.2.2⟩
    · have hnx : ∀ ty, (Instr.next (.pointer (some ⟨w.heap.size, 0, none⟩)) true ty).run Tryd.prog (w.iter s pos) = _ := fun ty => run_next_end w s pos ty hp
      have HT : Hid (s.size ≤ 60 → IsText s) := by
        intro h60
        obtain ⟨h1, h2, h3⟩ := hT.out
        refine ⟨rs, ?_, h3, h60⟩
        rw [← h2, List.take_of_length_le]
        show s.size ≤ pos
        omega
      have hc : decide ((s.size : Int) ≤ 60) = true ∨ decide ((s.size : Int) ≤ 60) = false := by cases decide ((s.size : Int) ≤ 60) <;> simp
      go_wp2
      go_ret
      refine ⟨⟨_, rfl, fun h => HT.out ?_⟩, below_iter _ _ _⟩
      have : (s.size : Int) ≤ 60 := by simpa using h
      omega

/-- What may stand behind a token: the characters of each of the nine texts. -/
def behinds : List (List Nat) := [[], [32], [41], [10], [44], [43, 49], [59, 120], [9, 46], [93, 32]]
def firstOf : List Nat → Int
  | [] => -1
  | x :: _ => x
theorem bel_alloc_drewN (w : World) (o : Obj) (k : Nat) : Below w.heap.size w ((w.alloc o).drewN k) := let h := (Below.refl w.heap.size w).alloc (Nat.le_refl _) o; ⟨h.os, h.tape, h.output, h.size, h.block⟩
theorem enc0 : encs [] = [] := by decide +kernel
theorem enc1 : encs [32] = [32] := by decide +kernel
theorem enc2 : encs [41] = [41] := by decide +kernel
theorem enc3 : encs [10] = [10] := by decide +kernel
theorem enc4 : encs [44] = [44] := by decide +kernel
theorem enc5 : encs [43, 49] = [43, 49] := by decide +kernel
theorem enc6 : encs [59, 120] = [59, 120] := by decide +kernel
theorem enc7 : encs [9, 46] = [9, 46] := by decide +kernel
theorem enc8 : encs [93, 32] = [93, 32] := by decide +kernel
theorem ret_pair {a : ByteArray} {x y : Int} (h : x = y) : Ending.returned (.tuple #[.string a, .int .i64 x]) = .returned (.tuple #[.string a, .int .i64 y]) := by rw [h]
def BehindPost (w : World) (e : Ending) (w' : World) : Prop := (∃ l ∈ behinds, e = .returned (.tuple #[.string ⟨(encs l).toArray⟩, .int .i64 (firstOf l)])) ∧ Below w.heap.size w w'

set_option maxRecDepth 100000 in
set_option maxHeartbeats 4000000 in
theorem behind_calls (n : Int) (w : World) (h0 : 0 ≤ n) (h1 : n < 256) : Calls Tryd.prog 19 #[.int .u8 n] w (BehindPost w) := by
  have hc : n % 9 = 0 ∨ n % 9 = 1 ∨ n % 9 = 2 ∨ n % 9 = 3 ∨ n % 9 = 4 ∨ n % 9 = 5 ∨ n % 9 = 6 ∨ n % 9 = 7 ∨ n % 9 = 8 := by omega
  rcases hc with hm | hm | hm | hm | hm | hm | hm | hm | hm
  · go_enter Tryd.func19, Tryd.ntmps19
    go_wp2
    go_ret2
    refine ⟨⟨[], by simp [behinds], ?_⟩, ((Below.refl _ _).alloc (Nat.le_refl _) _)⟩
    rw [enc0]; rfl
  · go_enter Tryd.func19, Tryd.ntmps19
    go_wp2
    go_quiet (fail)
    go_wp2
    go_ret2
    refine ⟨⟨[32], by simp [behinds], ?_⟩, bel_alloc_drewN _ _ _⟩
    rw [enc1]; exact ret_pair (by decide +kernel)
  · go_enter Tryd.func19, Tryd.ntmps19
    go_wp2
    go_quiet (fail)
    go_wp2
    go_ret2
    refine ⟨⟨[41], by simp [behinds], ?_⟩, bel_alloc_drewN _ _ _⟩
    rw [enc2]; exact ret_pair (by decide +kernel)
  · go_enter Tryd.func19, Tryd.ntmps19
    go_wp2
    go_quiet (fail)
    go_wp2
    go_ret2
    refine ⟨⟨[10], by simp [behinds], ?_⟩, bel_alloc_drewN _ _ _⟩
    rw [enc3]; exact ret_pair (by decide +kernel)
  · go_enter Tryd.func19, Tryd.ntmps19
    go_wp2
    go_quiet (fail)
    go_wp2
    go_ret2
    refine ⟨⟨[44], by simp [behinds], ?_⟩, bel_alloc_drewN _ _ _⟩
    rw [enc4]; exact ret_pair (by decide +kernel)
  · go_enter Tryd.func19, Tryd.ntmps19
    go_wp2
    go_quiet (fail)
    go_wp2
    go_ret2
    refine ⟨⟨[43, 49], by simp [behinds], ?_⟩, bel_alloc_drewN _ _ _⟩
    rw [enc5]; exact ret_pair (by decide +kernel)
  · go_enter Tryd.func19, Tryd.ntmps19
    go_wp2
    go_quiet (fail)
    go_wp2
    go_ret2
    refine ⟨⟨[59, 120], by simp [behinds], ?_⟩, bel_alloc_drewN _ _ _⟩
    rw [enc6]; exact ret_pair (by decide +kernel)
  · go_enter Tryd.func19, Tryd.ntmps19
    go_wp2
    go_quiet (fail)
    go_wp2
    go_ret2
    refine ⟨⟨[9, 46], by simp [behinds], ?_⟩, bel_alloc_drewN _ _ _⟩
    rw [enc7]; exact ret_pair (by decide +kernel)
  · go_enter Tryd.func19, Tryd.ntmps19
    go_wp2
    go_quiet (fail)
    go_wp2
    go_ret2
    refine ⟨⟨[93, 32], by simp [behinds], ?_⟩, bel_alloc_drewN _ _ _⟩
    rw [enc8]; exact ret_pair (by decide +kernel)
end Go.Proofs.YtnehkpoggkfikaaDoor
