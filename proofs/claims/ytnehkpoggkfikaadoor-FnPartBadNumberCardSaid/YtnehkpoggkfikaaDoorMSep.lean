/-
  The plain law of the statement on the place of a low line (no program in it): what the loop over a number's text keeps true, and what follows at each of its ends. No condition.
  The walks through the place of a low line (invalidSep): it returns an answer as the plain law has it, and writes nothing. Condition: the text is no longer than the model's longest.
  The walk through invalidSep, whatever text. Condition: the text is no longer than the model's longest.
-/
import Derived.WalkKit
import Derived.Test.YtnehkpoggkfikaaDoorProg
import Derived.WalkSpells
import Derived.WalkLawsBesides
import Derived.Outline
import Derived.Lib.Hide
import Derived.Deep.LoopGhost
namespace Go.Proofs.YtnehkpoggkfikaaDoor.Sep
open Go.RowKit

/-- A letter in its lower form, as the walk writes it. -/
def lowZ (c : Int) : Int := bits BinOp.or .i32 32 c
def lowU (c : Int) : Int := bits BinOp.or .u8 c 32
theorem low_fin : ∀ n : Fin 256, lowZ (n.val : Int) = lowU (n.val : Int) ∧ lowZ (n.val : Int) = ((32 ||| n.val : Nat) : Int) := by decide +kernel
theorem low_same (c : Int) (h0 : 0 ≤ c) (h1 : c < 256) : lowZ c = lowU c := by
  have h := low_fin ⟨c.toNat, by omega⟩
  simp only [Int.toNat_of_nonneg h0] at h
  exact h.1
def decB (c : Int) : Bool := decide (48 ≤ c ∧ c ≤ 57)
def hexB (c : Int) : Bool := decide (48 ≤ c ∧ c ≤ 57) || decide (97 ≤ lowZ c ∧ lowZ c ≤ 102)
/-- A digit: with hex also a letter up to f. -/
def digB (hex : Bool) (c : Int) : Bool := decB c || hex && hexB c

/-- The byte at a place, as a number. -/
def byteAt (s : ByteArray) (k : Nat) : Int := if h : k < s.size then (s[k].toNat : Int) else 0
theorem byteAt_get (s : ByteArray) (k : Nat) (h : k < s.size) : (s[k].toNat : Int) = byteAt s k := by
  unfold byteAt; rw [dif_pos h]
theorem byteAt_lt (s : ByteArray) (k : Nat) : 0 ≤ byteAt s k ∧ byteAt s k < 256 := by
  unfold byteAt
  split
  · have := (s[k]).toNat_lt
    omega
  · omega

/-- What stands ahead of the place k is, to the loop: 48 a digit (or the base), 95 a low line, 46 anything else. -/
def cls (hex : Bool) (c : Int) : Int := if c = 95 then 95 else if digB hex c = true then 48 else 46
def dAt (s : ByteArray) (hex : Bool) (st : Nat) (d0 : Int) (k : Nat) : Int := if k = st then d0 else cls hex (byteAt s (k - 1))
/-- No fault was met ahead of the place k. -/
def okTo (s : ByteArray) (hex : Bool) (st : Nat) (d0 : Int) (k : Nat) : Prop :=
  ∀ j, st ≤ j → j < k → (byteAt s j = 95 → dAt s hex st d0 j = 48) ∧ (byteAt s j ≠ 95 → digB hex (byteAt s j) = false → dAt s hex st d0 j ≠ 95)
theorem okTo_start (s : ByteArray) (hex : Bool) (st : Nat) (d0 : Int) : okTo s hex st d0 st := fun j h1 h2 => by omega
theorem dAt_start (s : ByteArray) (hex : Bool) (st : Nat) (d0 : Int) : dAt s hex st d0 st = d0 := by simp [dAt]
theorem dAt_next (s : ByteArray) (hex : Bool) (st : Nat) (d0 : Int) (k : Nat) (h : st ≤ k) : dAt s hex st d0 (k + 1) = cls hex (byteAt s k) := by
  unfold dAt
  rw [if_neg (by omega)]
  rfl
theorem cls_cases (hex : Bool) (c : Int) : cls hex c = 95 ∨ cls hex c = 48 ∨ cls hex c = 46 := by
  unfold cls; split
  · simp
  · split <;> simp
theorem dAt_cases (s : ByteArray) (hex : Bool) (st : Nat) (d0 : Int) (k : Nat) (hd : d0 = 48 ∨ d0 = 46) : dAt s hex st d0 k = 95 ∨ dAt s hex st d0 k = 48 ∨ dAt s hex st d0 k = 46 := by
  unfold dAt; split
  · rcases hd with rfl | rfl <;> simp
  · exact cls_cases _ _

/-- The statement's own words: each low line stands between digits, or between the base and a digit. -/
def leftOk (s : ByteArray) (hex : Bool) (ahead j : Nat) : Prop := 0 < j ∧ (j = ahead ∨ (ahead < j ∧ digB hex (byteAt s (j - 1)) = true))
def rightOk (s : ByteArray) (hex : Bool) (j : Nat) : Prop := j + 1 < s.size ∧ digB hex (byteAt s (j + 1)) = true
def partedTo (s : ByteArray) (hex : Bool) (ahead k : Nat) : Prop := ∀ j, j < k → byteAt s j = 95 → leftOk s hex ahead j ∧ rightOk s hex j
/-- What a text's beginning says: whether its digits are of sixteen, and how long the base is. -/
structure Head (s : ByteArray) (hex : Bool) (st : Nat) (d0 : Int) : Prop where
  kind : (st = 0 ∧ d0 = 46 ∧ hex = false) ∨ (st = 2 ∧ d0 = 48 ∧ 2 ≤ s.size ∧ byteAt s 0 ≠ 95 ∧ byteAt s 1 ≠ 95)

/-- The answer of the place: none exactly where each low line stands right; else that of a low line. -/
def Answer (s : ByteArray) (hex : Bool) (st : Nat) (k : Int) : Prop :=
  (partedTo s hex st s.size ∧ k = -1) ∨ (¬ partedTo s hex st s.size ∧ ∃ j : Nat, k = j ∧ j < s.size ∧ byteAt s j = 95)

theorem okTo_next {s : ByteArray} {hex : Bool} {st : Nat} {d0 : Int} {k : Nat} (h : okTo s hex st d0 k)
    (h1 : byteAt s k = 95 → dAt s hex st d0 k = 48) (h2 : byteAt s k ≠ 95 → digB hex (byteAt s k) = false → dAt s hex st d0 k ≠ 95) : okTo s hex st d0 (k + 1) := by
  intro j hj hk
  by_cases e : j = k
  · subst e; exact ⟨h1, h2⟩
  · exact h j hj (by omega)

theorem cls_95 {hex : Bool} {c : Int} (h : cls hex c = 95) : c = 95 := by
  unfold cls at h; split at h
  · assumption
  · split at h <;> simp at h
theorem cls_48 {hex : Bool} {c : Int} (h : cls hex c = 48) : c ≠ 95 ∧ digB hex c = true := by
  unfold cls at h; split at h
  · simp at h
  · split at h
    · exact ⟨by assumption, by assumption⟩
    · simp at h

/-- A low line with no digit ahead of it: it stands wrong. -/
theorem end_left {s : ByteArray} {hex : Bool} {st : Nat} {d0 : Int} {k : Nat} (H : Head s hex st d0) (hk : st ≤ k) (hlt : k < s.size)
    (hc : byteAt s k = 95) (hd : dAt s hex st d0 k ≠ 48) : Answer s hex st (k : Int) := by
  refine .inr ⟨fun hp => ?_, k, rfl, hlt, hc⟩
  obtain ⟨⟨h0, hl⟩, -⟩ := hp k hlt hc
  apply hd
  rcases hl with rfl | ⟨hl, hdig⟩
  · rcases H.kind with ⟨rfl, _, _⟩ | ⟨_, rfl, _⟩
    · omega
    · simp [dAt]
  · unfold dAt
    rw [if_neg (by omega)]
    unfold cls
    by_cases e : byteAt s (k - 1) = 95
    · obtain ⟨-, hr⟩ := hp (k - 1) (by omega) e
      obtain ⟨_, hr⟩ := hr
      rw [show k - 1 + 1 = k from by omega, hc] at hr
      exact absurd hr (by cases hex <;> decide)
    · rw [if_neg e, if_pos hdig]

/-- A low line with no digit behind it: it stands wrong. -/
theorem end_right {s : ByteArray} {hex : Bool} {st : Nat} {d0 : Int} {k : Nat} (H : Head s hex st d0) (hk : st ≤ k) (hle : k ≤ s.size)
    (hd : dAt s hex st d0 k = 95) (hbad : k = s.size ∨ (byteAt s k ≠ 95 ∧ digB hex (byteAt s k) = false)) : 0 < k ∧ Answer s hex st ((k : Int) - 1) := by
  have hne : k ≠ st := by
    rintro rfl
    rw [dAt_start] at hd
    rcases H.kind with ⟨_, h, _⟩ | ⟨_, h, _⟩ <;> rw [h] at hd <;> simp at hd
  have hk0 : 0 < k := by omega
  have hc : byteAt s (k - 1) = 95 := by
    unfold dAt at hd
    rw [if_neg hne] at hd
    exact cls_95 hd
  refine ⟨hk0, .inr ⟨fun hp => ?_, k - 1, by omega, by omega, hc⟩⟩
  obtain ⟨-, hr1, hr2⟩ := hp (k - 1) (by omega) hc
  rw [show k - 1 + 1 = k from by omega] at hr1 hr2
  rcases hbad with h | ⟨_, h⟩
  · omega
  · rw [h] at hr2; simp at hr2

/-- The end of the text, no fault met: each low line stands right. -/
theorem end_ok {s : ByteArray} {hex : Bool} {st : Nat} {d0 : Int} (H : Head s hex st d0) (ok : okTo s hex st d0 s.size)
    (hd : dAt s hex st d0 s.size ≠ 95) : Answer s hex st (-1) := by
  refine .inl ⟨fun j hj hc => ?_, rfl⟩
  have hst : st ≤ j := by
    rcases H.kind with ⟨rfl, _⟩ | ⟨rfl, _, _, h0, h1⟩
    · omega
    · rcases Nat.lt_or_ge j 2 with h | h
      · rcases Nat.lt_or_ge j 1 with h' | h'
        · obtain rfl : j = 0 := by omega
          exact absurd hc h0
        · obtain rfl : j = 1 := by omega
          exact absurd hc h1
      · exact h
  have hl := (ok j hst hj).1 hc
  constructor
  · by_cases e : j = st
    · subst e
      rw [dAt_start] at hl
      rcases H.kind with ⟨_, h, _⟩ | ⟨rfl, _⟩
      · rw [h] at hl; simp at hl
      · exact ⟨by omega, .inl rfl⟩
    · unfold dAt at hl
      rw [if_neg e] at hl
      exact ⟨by omega, .inr ⟨by omega, (cls_48 hl).2⟩⟩
  · have hn : dAt s hex st d0 (j + 1) = 95 := by
      rw [dAt_next _ _ _ _ _ hst]; simp [cls, hc]
    by_cases e : j + 1 < s.size
    · refine ⟨e, ?_⟩
      obtain ⟨h1, h2⟩ := ok (j + 1) (by omega) e
      by_cases e95 : byteAt s (j + 1) = 95
      · have := h1 e95; rw [hn] at this; simp at this
      · cases hg : digB hex (byteAt s (j + 1)) with
        | true => rfl
        | false => exact absurd hn (h2 e95 hg)
    · exact absurd (by rw [show s.size = j + 1 from by omega]; exact hn) hd

end Go.Proofs.YtnehkpoggkfikaaDoor.Sep

namespace Go.Proofs.YtnehkpoggkfikaaDoor.Sep
open Go.RowKit
set_option linter.unusedVariables false

theorem ret_bool {a b : Bool} (h : a = b) : Ending.returned (.bool a) = .returned (.bool b) := by rw [h]

theorem isDec_any (c : Int) (b : Bool) (w : World) (h : decB c = b) :
    Calls Tryd.prog 100 #[.int .i32 c] w fun e w' => e = .returned (.bool b) ∧ w = w' := by
  unfold decB at h
  have H := Lib.hid h; clear h
  by_cases h1 : 48 ≤ c
  all_goals
    go_enter Tryd.func100, Tryd.ntmps100
    go_wp2
    go_ret
    exact ⟨ret_bool (by rw [← H.out]; simp [h1]; try omega), rfl⟩
theorem isHex_any (c : Int) (b : Bool) (w : World) (h : hexB c = b) :
    Calls Tryd.prog 112 #[.int .i32 c] w fun e w' => e = .returned (.bool b) ∧ w = w' := by
  unfold hexB at h
  have hl : bits BinOp.or .i32 32 c = lowZ c := rfl
  generalize lowZ c = l at *
  have H := Lib.hid h; clear h
  by_cases h1 : 48 ≤ c <;> by_cases h2 : c ≤ 57 <;> by_cases h3 : 97 ≤ l
  all_goals
    go_enter Tryd.func112, Tryd.ntmps112
    go_wp2
    go_ret
    exact ⟨ret_bool (by rw [← H.out]; simp [h1, h2, h3]; try omega), rfl⟩

set_option maxHeartbeats 2000000 in
theorem sep_hex (s : ByteArray) (w : World) (hs : s.size ≤ maxLen) (h2 : 1 < s.size) (c0 c1 : Int) (h0 : (s[0].toNat : Int) = c0) (h1 : (s[1].toNat : Int) = c1) (e0 : (c0 == 48) = true) (b0 : 0 ≤ c1) (b1 : c1 < 256) (x : Int) (hx : bits BinOp.or IntKind.i32 32 c1 = x) (hc : (x == 120) = true) (H : Hid (Head s true 2 48)) :
    Calls Tryd.prog 96 #[.string s] w fun e w' => (∃ k, e = .returned (.int .i64 k) ∧ Answer s true 2 k) ∧ w = w' := by
  unfold maxLen at hs
  have h2' : (2:Int) ≤ (s.size : Int) := by omega
  go_enter Tryd.func96, Tryd.ntmps96
  go_wp2
  go_loopg [4, 5] (s.size - 2) (fun g d i wr => wr = w ∧ ∃ k : Nat, g = s.size - k ∧ 2 ≤ k ∧ k ≤ s.size ∧ i = .int .i64 k ∧ d = .int .i32 (dAt s true 2 48 k) ∧ Hid (okTo s true 2 48 k))
  case atStart => exact ⟨rfl, 2, rfl, by omega, by omega, rfl, by rw [dAt_start], okTo_start _ _ _ _⟩
  case round =>
    obtain ⟨rfl, k, rfl, hk, hkn, rfl, rfl, hok⟩ := hrel
    have hd := dAt_cases s true 2 48 k (by simp)
    have her := Lib.hid (end_right H.out hk hkn)
    by_cases hlt : k < s.size
    · have hb := byteAt_lt s k
      obtain ⟨hb0, hb1⟩ := hb
      have hg := byteAt_get s k hlt
      have hn := Lib.hid (dAt_next s true 2 48 k hk)
      have hel := Lib.hid (end_left H.out hk hlt)
      have hon := Lib.hid (okTo_next hok.out)
      generalize dAt s true 2 48 k = d at *
      generalize byteAt s k = c at *
      have hk' : (k : Int) < (s.size : Int) := by omega
      by_cases h95 : c = 95
      · have t1 : (c == 95) = true := by simp [h95]
        have C95 := Lib.hid h95; clear h95
        rcases hd with rfl | rfl | rfl
        · go_wp2
          go_ret
          exact ⟨⟨_, rfl, hel.out C95.out (by decide)⟩, rfl⟩
        · go_wp2
          go_roundg (s.size - (k + 1))
          case measure => omega
          case rel => exact ⟨rfl, k + 1, rfl, by omega, by omega, by go_num, by rw [hn.out, C95.out]; rfl, hon.out (fun _ => by trivial) (fun h => absurd C95.out h)⟩
        · go_wp2
          go_ret
          exact ⟨⟨_, rfl, hel.out C95.out (by decide)⟩, rfl⟩
      · have t1 : (c == 95) = false := by simp [h95]
        have N95 := Lib.hid h95; clear h95
        cases hdec : decB c with
        | true =>
          have hdg : digB true c = true := by simp [digB, hdec]
          have DG := Lib.hid hdg; clear hdg
          rcases hd with rfl | rfl | rfl
          all_goals
            go_wp2_with (go_at_call 100; refine (isDec_any c true _ hdec).mono ?_; rintro e w' ⟨rfl, rfl⟩)
            go_roundg (s.size - (k + 1))
            case measure => omega
            case rel => exact ⟨rfl, k + 1, rfl, by omega, by omega, by go_num, by rw [hn.out, cls, if_neg N95.out, if_pos DG.out], hon.out (fun h => absurd h N95.out) (fun _ h => absurd (DG.out.symm.trans h) (by decide))⟩
        | false =>
          cases hhex : hexB c with
          | true =>
            have hdg : digB true c = true := by simp [digB, hhex]
            have DG := Lib.hid hdg; clear hdg
            rcases hd with rfl | rfl | rfl
            all_goals
              go_wp2_with (first | (go_at_call 100; refine (isDec_any c false _ hdec).mono ?_; rintro e w' ⟨rfl, rfl⟩) | (go_at_call 112; refine (isHex_any c true _ hhex).mono ?_; rintro e w' ⟨rfl, rfl⟩))
              go_roundg (s.size - (k + 1))
              case measure => omega
              case rel => exact ⟨rfl, k + 1, rfl, by omega, by omega, by go_num, by rw [hn.out, cls, if_neg N95.out, if_pos DG.out], hon.out (fun h => absurd h N95.out) (fun _ h => absurd (DG.out.symm.trans h) (by decide))⟩
          | false =>
            have hdg : digB true c = false := by simp [digB, hdec, hhex]
            have DG := Lib.hid hdg; clear hdg
            rcases hd with rfl | rfl | rfl
            · go_wp2_with (first | (go_at_call 100; refine (isDec_any c false _ hdec).mono ?_; rintro e w' ⟨rfl, rfl⟩) | (go_at_call 112; refine (isHex_any c false _ hhex).mono ?_; rintro e w' ⟨rfl, rfl⟩))
              go_ret
              exact ⟨⟨_, rfl, (her.out (by trivial) (.inr ⟨N95.out, DG.out⟩)).2⟩, rfl⟩
            all_goals
              go_wp2_with (first | (go_at_call 100; refine (isDec_any c false _ hdec).mono ?_; rintro e w' ⟨rfl, rfl⟩) | (go_at_call 112; refine (isHex_any c false _ hhex).mono ?_; rintro e w' ⟨rfl, rfl⟩))
              go_roundg (s.size - (k + 1))
              case measure => omega
              case rel => exact ⟨rfl, k + 1, rfl, by omega, by omega, by go_num, by rw [hn.out, cls, if_neg N95.out, if_neg (by rw [DG.out]; decide)], hon.out (fun h => absurd h N95.out) (fun _ _ => by decide)⟩
    · obtain rfl : k = s.size := by omega
      have heo := Lib.hid (end_ok H.out hok.out)
      generalize dAt s true 2 48 s.size = d at *
      rcases hd with rfl | rfl | rfl
      · have hp := her.out (by trivial) (.inl rfl)
        obtain ⟨hp0, HA⟩ := hp
        have HA := Lib.hid HA
        go_wp2
        go_ret
        exact ⟨⟨_, rfl, HA.out⟩, rfl⟩
      all_goals
        go_wp2
        go_ret
        exact ⟨⟨_, rfl, heo.out (by decide)⟩, rfl⟩

set_option maxHeartbeats 2000000 in
theorem sep_oct (s : ByteArray) (w : World) (hs : s.size ≤ maxLen) (h2 : 1 < s.size) (c0 c1 : Int) (h0 : (s[0].toNat : Int) = c0) (h1 : (s[1].toNat : Int) = c1) (e0 : (c0 == 48) = true) (b0 : 0 ≤ c1) (b1 : c1 < 256) (x : Int) (hx : bits BinOp.or IntKind.i32 32 c1 = x) (hc : (x == 120) = false) (ho : (x == 111) = true) (H : Hid (Head s false 2 48)) :
    Calls Tryd.prog 96 #[.string s] w fun e w' => (∃ k, e = .returned (.int .i64 k) ∧ Answer s false 2 k) ∧ w = w' := by
  unfold maxLen at hs
  have h2' : (2:Int) ≤ (s.size : Int) := by omega
  go_enter Tryd.func96, Tryd.ntmps96
  go_wp2
  go_loopg [4, 5] (s.size - 2) (fun g d i wr => wr = w ∧ ∃ k : Nat, g = s.size - k ∧ 2 ≤ k ∧ k ≤ s.size ∧ i = .int .i64 k ∧ d = .int .i32 (dAt s false 2 48 k) ∧ Hid (okTo s false 2 48 k))
  case atStart => exact ⟨rfl, 2, rfl, by omega, by omega, rfl, by rw [dAt_start], okTo_start _ _ _ _⟩
  case round =>
    obtain ⟨rfl, k, rfl, hk, hkn, rfl, rfl, hok⟩ := hrel
    have hd := dAt_cases s false 2 48 k (by simp)
    have her := Lib.hid (end_right H.out hk hkn)
    by_cases hlt : k < s.size
    · have hb := byteAt_lt s k
      obtain ⟨hb0, hb1⟩ := hb
      have hg := byteAt_get s k hlt
      have hn := Lib.hid (dAt_next s false 2 48 k hk)
      have hel := Lib.hid (end_left H.out hk hlt)
      have hon := Lib.hid (okTo_next hok.out)
      generalize dAt s false 2 48 k = d at *
      generalize byteAt s k = c at *
      have hk' : (k : Int) < (s.size : Int) := by omega
      by_cases h95 : c = 95
      · have t1 : (c == 95) = true := by simp [h95]
        have C95 := Lib.hid h95; clear h95
        rcases hd with rfl | rfl | rfl
        · go_wp2
          go_ret
          exact ⟨⟨_, rfl, hel.out C95.out (by decide)⟩, rfl⟩
        · go_wp2
          go_roundg (s.size - (k + 1))
          case measure => omega
          case rel => exact ⟨rfl, k + 1, rfl, by omega, by omega, by go_num, by rw [hn.out, C95.out]; rfl, hon.out (fun _ => by trivial) (fun h => absurd C95.out h)⟩
        · go_wp2
          go_ret
          exact ⟨⟨_, rfl, hel.out C95.out (by decide)⟩, rfl⟩
      · have t1 : (c == 95) = false := by simp [h95]
        have N95 := Lib.hid h95; clear h95
        cases hdec : decB c with
        | true =>
          have hdg : digB false c = true := by simp [digB, hdec]
          have DG := Lib.hid hdg; clear hdg
          rcases hd with rfl | rfl | rfl
          all_goals
            go_wp2_with (go_at_call 100; refine (isDec_any c true _ hdec).mono ?_; rintro e w' ⟨rfl, rfl⟩)
            go_roundg (s.size - (k + 1))
            case measure => omega
            case rel => exact ⟨rfl, k + 1, rfl, by omega, by omega, by go_num, by rw [hn.out, cls, if_neg N95.out, if_pos DG.out], hon.out (fun h => absurd h N95.out) (fun _ h => absurd (DG.out.symm.trans h) (by decide))⟩
        | false =>
          have hdg : digB false c = false := by simp [digB, hdec]
          have DG := Lib.hid hdg; clear hdg
          rcases hd with rfl | rfl | rfl
          · go_wp2_with (first | (go_at_call 100; refine (isDec_any c false _ hdec).mono ?_; rintro e w' ⟨rfl, rfl⟩))
            go_ret
            exact ⟨⟨_, rfl, (her.out (by trivial) (.inr ⟨N95.out, DG.out⟩)).2⟩, rfl⟩
          all_goals
            go_wp2_with (first | (go_at_call 100; refine (isDec_any c false _ hdec).mono ?_; rintro e w' ⟨rfl, rfl⟩))
            go_roundg (s.size - (k + 1))
            case measure => omega
            case rel => exact ⟨rfl, k + 1, rfl, by omega, by omega, by go_num, by rw [hn.out, cls, if_neg N95.out, if_neg (by rw [DG.out]; decide)], hon.out (fun h => absurd h N95.out) (fun _ _ => by decide)⟩
    · obtain rfl : k = s.size := by omega
      have heo := Lib.hid (end_ok H.out hok.out)
      generalize dAt s false 2 48 s.size = d at *
      rcases hd with rfl | rfl | rfl
      · have hp := her.out (by trivial) (.inl rfl)
        obtain ⟨hp0, HA⟩ := hp
        have HA := Lib.hid HA
        go_wp2
        go_ret
        exact ⟨⟨_, rfl, HA.out⟩, rfl⟩
      all_goals
        go_wp2
        go_ret
        exact ⟨⟨_, rfl, heo.out (by decide)⟩, rfl⟩

set_option maxHeartbeats 2000000 in
theorem sep_bin (s : ByteArray) (w : World) (hs : s.size ≤ maxLen) (h2 : 1 < s.size) (c0 c1 : Int) (h0 : (s[0].toNat : Int) = c0) (h1 : (s[1].toNat : Int) = c1) (e0 : (c0 == 48) = true) (b0 : 0 ≤ c1) (b1 : c1 < 256) (x : Int) (hx : bits BinOp.or IntKind.i32 32 c1 = x) (hc : (x == 120) = false) (ho : (x == 111) = false) (hb : (x == 98) = true) (H : Hid (Head s false 2 48)) :
    Calls Tryd.prog 96 #[.string s] w fun e w' => (∃ k, e = .returned (.int .i64 k) ∧ Answer s false 2 k) ∧ w = w' := by
  unfold maxLen at hs
  have h2' : (2:Int) ≤ (s.size : Int) := by omega
  go_enter Tryd.func96, Tryd.ntmps96
  go_wp2
  go_loopg [4, 5] (s.size - 2) (fun g d i wr => wr = w ∧ ∃ k : Nat, g = s.size - k ∧ 2 ≤ k ∧ k ≤ s.size ∧ i = .int .i64 k ∧ d = .int .i32 (dAt s false 2 48 k) ∧ Hid (okTo s false 2 48 k))
  case atStart => exact ⟨rfl, 2, rfl, by omega, by omega, rfl, by rw [dAt_start], okTo_start _ _ _ _⟩
  case round =>
    obtain ⟨rfl, k, rfl, hk, hkn, rfl, rfl, hok⟩ := hrel
    have hd := dAt_cases s false 2 48 k (by simp)
    have her := Lib.hid (end_right H.out hk hkn)
    by_cases hlt : k < s.size
    · have hb := byteAt_lt s k
      obtain ⟨hb0, hb1⟩ := hb
      have hg := byteAt_get s k hlt
      have hn := Lib.hid (dAt_next s false 2 48 k hk)
      have hel := Lib.hid (end_left H.out hk hlt)
      have hon := Lib.hid (okTo_next hok.out)
      generalize dAt s false 2 48 k = d at *
      generalize byteAt s k = c at *
      have hk' : (k : Int) < (s.size : Int) := by omega
      by_cases h95 : c = 95
      · have t1 : (c == 95) = true := by simp [h95]
        have C95 := Lib.hid h95; clear h95
        rcases hd with rfl | rfl | rfl
        · go_wp2
          go_ret
          exact ⟨⟨_, rfl, hel.out C95.out (by decide)⟩, rfl⟩
        · go_wp2
          go_roundg (s.size - (k + 1))
          case measure => omega
          case rel => exact ⟨rfl, k + 1, rfl, by omega, by omega, by go_num, by rw [hn.out, C95.out]; rfl, hon.out (fun _ => by trivial) (fun h => absurd C95.out h)⟩
        · go_wp2
          go_ret
          exact ⟨⟨_, rfl, hel.out C95.out (by decide)⟩, rfl⟩
      · have t1 : (c == 95) = false := by simp [h95]
        have N95 := Lib.hid h95; clear h95
        cases hdec : decB c with
        | true =>
          have hdg : digB false c = true := by simp [digB, hdec]
          have DG := Lib.hid hdg; clear hdg
          rcases hd with rfl | rfl | rfl
          all_goals
            go_wp2_with (go_at_call 100; refine (isDec_any c true _ hdec).mono ?_; rintro e w' ⟨rfl, rfl⟩)
            go_roundg (s.size - (k + 1))
            case measure => omega
            case rel => exact ⟨rfl, k + 1, rfl, by omega, by omega, by go_num, by rw [hn.out, cls, if_neg N95.out, if_pos DG.out], hon.out (fun h => absurd h N95.out) (fun _ h => absurd (DG.out.symm.trans h) (by decide))⟩
        | false =>
          have hdg : digB false c = false := by simp [digB, hdec]
          have DG := Lib.hid hdg; clear hdg
          rcases hd with rfl | rfl | rfl
          · go_wp2_with (first | (go_at_call 100; refine (isDec_any c false _ hdec).mono ?_; rintro e w' ⟨rfl, rfl⟩))
            go_ret
            exact ⟨⟨_, rfl, (her.out (by trivial) (.inr ⟨N95.out, DG.out⟩)).2⟩, rfl⟩
          all_goals
            go_wp2_with (first | (go_at_call 100; refine (isDec_any c false _ hdec).mono ?_; rintro e w' ⟨rfl, rfl⟩))
            go_roundg (s.size - (k + 1))
            case measure => omega
            case rel => exact ⟨rfl, k + 1, rfl, by omega, by omega, by go_num, by rw [hn.out, cls, if_neg N95.out, if_neg (by rw [DG.out]; decide)], hon.out (fun h => absurd h N95.out) (fun _ _ => by decide)⟩
    · obtain rfl : k = s.size := by omega
      have heo := Lib.hid (end_ok H.out hok.out)
      generalize dAt s false 2 48 s.size = d at *
      rcases hd with rfl | rfl | rfl
      · have hp := her.out (by trivial) (.inl rfl)
        obtain ⟨hp0, HA⟩ := hp
        have HA := Lib.hid HA
        go_wp2
        go_ret
        exact ⟨⟨_, rfl, HA.out⟩, rfl⟩
      all_goals
        go_wp2
        go_ret
        exact ⟨⟨_, rfl, heo.out (by decide)⟩, rfl⟩

set_option maxHeartbeats 2000000 in
theorem sep_none (s : ByteArray) (w : World) (hs : s.size ≤ maxLen) (h2 : 1 < s.size) (c0 c1 : Int) (h0 : (s[0].toNat : Int) = c0) (h1 : (s[1].toNat : Int) = c1) (e0 : (c0 == 48) = true) (b0 : 0 ≤ c1) (b1 : c1 < 256) (x : Int) (hx : bits BinOp.or IntKind.i32 32 c1 = x) (hc : (x == 120) = false) (ho : (x == 111) = false) (hb : (x == 98) = false) (H : Hid (Head s false 0 46)) :
    Calls Tryd.prog 96 #[.string s] w fun e w' => (∃ k, e = .returned (.int .i64 k) ∧ Answer s false 0 k) ∧ w = w' := by
  unfold maxLen at hs
  have h2' : (2:Int) ≤ (s.size : Int) := by omega
  go_enter Tryd.func96, Tryd.ntmps96
  go_wp2
  go_loopg [4, 5] (s.size - 0) (fun g d i wr => wr = w ∧ ∃ k : Nat, g = s.size - k ∧ 0 ≤ k ∧ k ≤ s.size ∧ i = .int .i64 k ∧ d = .int .i32 (dAt s false 0 46 k) ∧ Hid (okTo s false 0 46 k))
  case atStart => exact ⟨rfl, 0, rfl, by omega, by omega, rfl, by rw [dAt_start], okTo_start _ _ _ _⟩
  case round =>
    obtain ⟨rfl, k, rfl, hk, hkn, rfl, rfl, hok⟩ := hrel
    have hd := dAt_cases s false 0 46 k (by simp)
    have her := Lib.hid (end_right H.out hk hkn)
    by_cases hlt : k < s.size
    · have hb := byteAt_lt s k
      obtain ⟨hb0, hb1⟩ := hb
      have hg := byteAt_get s k hlt
      have hn := Lib.hid (dAt_next s false 0 46 k hk)
      have hel := Lib.hid (end_left H.out hk hlt)
      have hon := Lib.hid (okTo_next hok.out)
      generalize dAt s false 0 46 k = d at *
      generalize byteAt s k = c at *
      have hk' : (k : Int) < (s.size : Int) := by omega
      by_cases h95 : c = 95
      · have t1 : (c == 95) = true := by simp [h95]
        have C95 := Lib.hid h95; clear h95
        rcases hd with rfl | rfl | rfl
        · go_wp2
          go_ret
          exact ⟨⟨_, rfl, hel.out C95.out (by decide)⟩, rfl⟩
        · go_wp2
          go_roundg (s.size - (k + 1))
          case measure => omega
          case rel => exact ⟨rfl, k + 1, rfl, by omega, by omega, by go_num, by rw [hn.out, C95.out]; rfl, hon.out (fun _ => by trivial) (fun h => absurd C95.out h)⟩
        · go_wp2
          go_ret
          exact ⟨⟨_, rfl, hel.out C95.out (by decide)⟩, rfl⟩
      · have t1 : (c == 95) = false := by simp [h95]
        have N95 := Lib.hid h95; clear h95
        cases hdec : decB c with
        | true =>
          have hdg : digB false c = true := by simp [digB, hdec]
          have DG := Lib.hid hdg; clear hdg
          rcases hd with rfl | rfl | rfl
          all_goals
            go_wp2_with (go_at_call 100; refine (isDec_any c true _ hdec).mono ?_; rintro e w' ⟨rfl, rfl⟩)
            go_roundg (s.size - (k + 1))
            case measure => omega
            case rel => exact ⟨rfl, k + 1, rfl, by omega, by omega, by go_num, by rw [hn.out, cls, if_neg N95.out, if_pos DG.out], hon.out (fun h => absurd h N95.out) (fun _ h => absurd (DG.out.symm.trans h) (by decide))⟩
        | false =>
          have hdg : digB false c = false := by simp [digB, hdec]
          have DG := Lib.hid hdg; clear hdg
          rcases hd with rfl | rfl | rfl
          · go_wp2_with (first | (go_at_call 100; refine (isDec_any c false _ hdec).mono ?_; rintro e w' ⟨rfl, rfl⟩))
            go_ret
            exact ⟨⟨_, rfl, (her.out (by trivial) (.inr ⟨N95.out, DG.out⟩)).2⟩, rfl⟩
          all_goals
            go_wp2_with (first | (go_at_call 100; refine (isDec_any c false _ hdec).mono ?_; rintro e w' ⟨rfl, rfl⟩))
            go_roundg (s.size - (k + 1))
            case measure => omega
            case rel => exact ⟨rfl, k + 1, rfl, by omega, by omega, by go_num, by rw [hn.out, cls, if_neg N95.out, if_neg (by rw [DG.out]; decide)], hon.out (fun h => absurd h N95.out) (fun _ _ => by decide)⟩
    · obtain rfl : k = s.size := by omega
      have heo := Lib.hid (end_ok H.out hok.out)
      generalize dAt s false 0 46 s.size = d at *
      rcases hd with rfl | rfl | rfl
      · have hp := her.out (by trivial) (.inl rfl)
        obtain ⟨hp0, HA⟩ := hp
        have HA := Lib.hid HA
        go_wp2
        go_ret
        exact ⟨⟨_, rfl, HA.out⟩, rfl⟩
      all_goals
        go_wp2
        go_ret
        exact ⟨⟨_, rfl, heo.out (by decide)⟩, rfl⟩

set_option maxHeartbeats 2000000 in
theorem sep_not0 (s : ByteArray) (w : World) (hs : s.size ≤ maxLen) (h2 : 1 < s.size) (c0 : Int) (h0 : (s[0].toNat : Int) = c0) (e0 : (c0 == 48) = false) (H : Hid (Head s false 0 46)) :
    Calls Tryd.prog 96 #[.string s] w fun e w' => (∃ k, e = .returned (.int .i64 k) ∧ Answer s false 0 k) ∧ w = w' := by
  unfold maxLen at hs
  have h2' : (2:Int) ≤ (s.size : Int) := by omega
  go_enter Tryd.func96, Tryd.ntmps96
  go_wp2
  go_loopg [4, 5] (s.size - 0) (fun g d i wr => wr = w ∧ ∃ k : Nat, g = s.size - k ∧ 0 ≤ k ∧ k ≤ s.size ∧ i = .int .i64 k ∧ d = .int .i32 (dAt s false 0 46 k) ∧ Hid (okTo s false 0 46 k))
  case atStart => exact ⟨rfl, 0, rfl, by omega, by omega, rfl, by rw [dAt_start], okTo_start _ _ _ _⟩
  case round =>
    obtain ⟨rfl, k, rfl, hk, hkn, rfl, rfl, hok⟩ := hrel
    have hd := dAt_cases s false 0 46 k (by simp)
    have her := Lib.hid (end_right H.out hk hkn)
    by_cases hlt : k < s.size
    · have hb := byteAt_lt s k
      obtain ⟨hb0, hb1⟩ := hb
      have hg := byteAt_get s k hlt
      have hn := Lib.hid (dAt_next s false 0 46 k hk)
      have hel := Lib.hid (end_left H.out hk hlt)
      have hon := Lib.hid (okTo_next hok.out)
      generalize dAt s false 0 46 k = d at *
      generalize byteAt s k = c at *
      have hk' : (k : Int) < (s.size : Int) := by omega
      by_cases h95 : c = 95
      · have t1 : (c == 95) = true := by simp [h95]
        have C95 := Lib.hid h95; clear h95
        rcases hd with rfl | rfl | rfl
        · go_wp2
          go_ret
          exact ⟨⟨_, rfl, hel.out C95.out (by decide)⟩, rfl⟩
        · go_wp2
          go_roundg (s.size - (k + 1))
          case measure => omega
          case rel => exact ⟨rfl, k + 1, rfl, by omega, by omega, by go_num, by rw [hn.out, C95.out]; rfl, hon.out (fun _ => by trivial) (fun h => absurd C95.out h)⟩
        · go_wp2
          go_ret
          exact ⟨⟨_, rfl, hel.out C95.out (by decide)⟩, rfl⟩
      · have t1 : (c == 95) = false := by simp [h95]
        have N95 := Lib.hid h95; clear h95
        cases hdec : decB c with
        | true =>
          have hdg : digB false c = true := by simp [digB, hdec]
          have DG := Lib.hid hdg; clear hdg
          rcases hd with rfl | rfl | rfl
          all_goals
            go_wp2_with (go_at_call 100; refine (isDec_any c true _ hdec).mono ?_; rintro e w' ⟨rfl, rfl⟩)
            go_roundg (s.size - (k + 1))
            case measure => omega
            case rel => exact ⟨rfl, k + 1, rfl, by omega, by omega, by go_num, by rw [hn.out, cls, if_neg N95.out, if_pos DG.out], hon.out (fun h => absurd h N95.out) (fun _ h => absurd (DG.out.symm.trans h) (by decide))⟩
        | false =>
          have hdg : digB false c = false := by simp [digB, hdec]
          have DG := Lib.hid hdg; clear hdg
          rcases hd with rfl | rfl | rfl
          · go_wp2_with (first | (go_at_call 100; refine (isDec_any c false _ hdec).mono ?_; rintro e w' ⟨rfl, rfl⟩))
            go_ret
            exact ⟨⟨_, rfl, (her.out (by trivial) (.inr ⟨N95.out, DG.out⟩)).2⟩, rfl⟩
          all_goals
            go_wp2_with (first | (go_at_call 100; refine (isDec_any c false _ hdec).mono ?_; rintro e w' ⟨rfl, rfl⟩))
            go_roundg (s.size - (k + 1))
            case measure => omega
            case rel => exact ⟨rfl, k + 1, rfl, by omega, by omega, by go_num, by rw [hn.out, cls, if_neg N95.out, if_neg (by rw [DG.out]; decide)], hon.out (fun h => absurd h N95.out) (fun _ _ => by decide)⟩
    · obtain rfl : k = s.size := by omega
      have heo := Lib.hid (end_ok H.out hok.out)
      generalize dAt s false 0 46 s.size = d at *
      rcases hd with rfl | rfl | rfl
      · have hp := her.out (by trivial) (.inl rfl)
        obtain ⟨hp0, HA⟩ := hp
        have HA := Lib.hid HA
        go_wp2
        go_ret
        exact ⟨⟨_, rfl, HA.out⟩, rfl⟩
      all_goals
        go_wp2
        go_ret
        exact ⟨⟨_, rfl, heo.out (by decide)⟩, rfl⟩

set_option maxHeartbeats 2000000 in
theorem sep_short (s : ByteArray) (w : World) (hs : s.size ≤ maxLen) (h2 : ¬ (2:Int) ≤ (s.size : Int)) (H : Hid (Head s false 0 46)) :
    Calls Tryd.prog 96 #[.string s] w fun e w' => (∃ k, e = .returned (.int .i64 k) ∧ Answer s false 0 k) ∧ w = w' := by
  unfold maxLen at hs
  go_enter Tryd.func96, Tryd.ntmps96
  go_wp2
  go_loopg [4, 5] (s.size - 0) (fun g d i wr => wr = w ∧ ∃ k : Nat, g = s.size - k ∧ 0 ≤ k ∧ k ≤ s.size ∧ i = .int .i64 k ∧ d = .int .i32 (dAt s false 0 46 k) ∧ Hid (okTo s false 0 46 k))
  case atStart => exact ⟨rfl, 0, rfl, by omega, by omega, rfl, by rw [dAt_start], okTo_start _ _ _ _⟩
  case round =>
    obtain ⟨rfl, k, rfl, hk, hkn, rfl, rfl, hok⟩ := hrel
    have hd := dAt_cases s false 0 46 k (by simp)
    have her := Lib.hid (end_right H.out hk hkn)
    by_cases hlt : k < s.size
    · have hb := byteAt_lt s k
      obtain ⟨hb0, hb1⟩ := hb
      have hg := byteAt_get s k hlt
      have hn := Lib.hid (dAt_next s false 0 46 k hk)
      have hel := Lib.hid (end_left H.out hk hlt)
      have hon := Lib.hid (okTo_next hok.out)
      generalize dAt s false 0 46 k = d at *
      generalize byteAt s k = c at *
      have hk' : (k : Int) < (s.size : Int) := by omega
      by_cases h95 : c = 95
      · have t1 : (c == 95) = true := by simp [h95]
        have C95 := Lib.hid h95; clear h95
        rcases hd with rfl | rfl | rfl
        · go_wp2
          go_ret
          exact ⟨⟨_, rfl, hel.out C95.out (by decide)⟩, rfl⟩
        · go_wp2
          go_roundg (s.size - (k + 1))
          case measure => omega
          case rel => exact ⟨rfl, k + 1, rfl, by omega, by omega, by go_num, by rw [hn.out, C95.out]; rfl, hon.out (fun _ => by trivial) (fun h => absurd C95.out h)⟩
        · go_wp2
          go_ret
          exact ⟨⟨_, rfl, hel.out C95.out (by decide)⟩, rfl⟩
      · have t1 : (c == 95) = false := by simp [h95]
        have N95 := Lib.hid h95; clear h95
        cases hdec : decB c with
        | true =>
          have hdg : digB false c = true := by simp [digB, hdec]
          have DG := Lib.hid hdg; clear hdg
          rcases hd with rfl | rfl | rfl
          all_goals
            go_wp2_with (go_at_call 100; refine (isDec_any c true _ hdec).mono ?_; rintro e w' ⟨rfl, rfl⟩)
            go_roundg (s.size - (k + 1))
            case measure => omega
            case rel => exact ⟨rfl, k + 1, rfl, by omega, by omega, by go_num, by rw [hn.out, cls, if_neg N95.out, if_pos DG.out], hon.out (fun h => absurd h N95.out) (fun _ h => absurd (DG.out.symm.trans h) (by decide))⟩
        | false =>
          have hdg : digB false c = false := by simp [digB, hdec]
          have DG := Lib.hid hdg; clear hdg
          rcases hd with rfl | rfl | rfl
          · go_wp2_with (first | (go_at_call 100; refine (isDec_any c false _ hdec).mono ?_; rintro e w' ⟨rfl, rfl⟩))
            go_ret
            exact ⟨⟨_, rfl, (her.out (by trivial) (.inr ⟨N95.out, DG.out⟩)).2⟩, rfl⟩
          all_goals
            go_wp2_with (first | (go_at_call 100; refine (isDec_any c false _ hdec).mono ?_; rintro e w' ⟨rfl, rfl⟩))
            go_roundg (s.size - (k + 1))
            case measure => omega
            case rel => exact ⟨rfl, k + 1, rfl, by omega, by omega, by go_num, by rw [hn.out, cls, if_neg N95.out, if_neg (by rw [DG.out]; decide)], hon.out (fun h => absurd h N95.out) (fun _ _ => by decide)⟩
    · obtain rfl : k = s.size := by omega
      have heo := Lib.hid (end_ok H.out hok.out)
      generalize dAt s false 0 46 s.size = d at *
      rcases hd with rfl | rfl | rfl
      · have hp := her.out (by trivial) (.inl rfl)
        obtain ⟨hp0, HA⟩ := hp
        have HA := Lib.hid HA
        go_wp2
        go_ret
        exact ⟨⟨_, rfl, HA.out⟩, rfl⟩
      all_goals
        go_wp2
        go_ret
        exact ⟨⟨_, rfl, heo.out (by decide)⟩, rfl⟩

end Go.Proofs.YtnehkpoggkfikaaDoor.Sep

namespace Go.Proofs.YtnehkpoggkfikaaDoor.Sep
open Go.RowKit
set_option linter.unusedVariables false

/-- Whether a text's digits are of sixteen, and how long its base is. -/
def sepHex (s : ByteArray) : Bool := decide (1 < s.size ∧ byteAt s 0 = 48 ∧ lowZ (byteAt s 1) = 120)
def sepSt (s : ByteArray) : Nat := if 1 < s.size ∧ byteAt s 0 = 48 ∧ (lowZ (byteAt s 1) = 120 ∨ lowZ (byteAt s 1) = 111 ∨ lowZ (byteAt s 1) = 98) then 2 else 0
theorem head_pre (s : ByteArray) (hex : Bool) (h2 : 1 < s.size) (e0 : (byteAt s 0 == 48) = true) (x : Int) (hx : lowZ (byteAt s 1) = x) (hc : x = 120 ∨ x = 111 ∨ x = 98) : Head s hex 2 48 := by
  refine ⟨.inr ⟨rfl, rfl, by omega, ?_, ?_⟩⟩
  · have : byteAt s 0 = 48 := by simpa using e0
    omega
  · intro h
    rw [h] at hx
    have : lowZ 95 = 127 := by decide
    omega
theorem invalidSep_calls (s : ByteArray) (hs : s.size ≤ maxLen) (w : World) :
    Calls Tryd.prog 96 #[.string s] w fun e w' => (∃ k, e = .returned (.int .i64 k) ∧ Answer s (sepHex s) (sepSt s) k) ∧ w = w' := by
  have H0 : Head s false 0 46 := ⟨.inl ⟨rfl, rfl, rfl⟩⟩
  by_cases h2 : 1 < s.size
  · have h0 := byteAt_get s 0 (by omega)
    have h1 := byteAt_get s 1 h2
    obtain ⟨b0, b1⟩ := byteAt_lt s 1
    cases e0 : (byteAt s 0 == 48) with
    | false =>
      have n0 : byteAt s 0 ≠ 48 := by simpa using e0
      have e1 : sepHex s = false := by unfold sepHex; simp [n0]
      have e2 : sepSt s = 0 := by unfold sepSt; rw [if_neg (fun h => n0 h.2.1)]
      rw [e1, e2]; exact sep_not0 s w hs h2 _ h0 e0 H0
    | true =>
      have n0 : byteAt s 0 = 48 := by simpa using e0
      cases hc : (lowZ (byteAt s 1) == 120) with
      | true =>
        have nx : lowZ (byteAt s 1) = 120 := by simpa using hc
        have e1 : sepHex s = true := by unfold sepHex; simp [h2, n0, nx]
        have e2 : sepSt s = 2 := by unfold sepSt; rw [if_pos ⟨h2, n0, .inl nx⟩]
        rw [e1, e2]; exact sep_hex s w hs h2 _ _ h0 h1 e0 b0 b1 _ rfl hc (head_pre s true h2 e0 _ rfl (.inl nx))
      | false =>
        have nx : lowZ (byteAt s 1) ≠ 120 := by simpa using hc
        have e1 : sepHex s = false := by unfold sepHex; simp [nx]
        cases ho : (lowZ (byteAt s 1) == 111) with
        | true =>
          have no : lowZ (byteAt s 1) = 111 := by simpa using ho
          have e2 : sepSt s = 2 := by unfold sepSt; rw [if_pos ⟨h2, n0, .inr (.inl no)⟩]
          rw [e1, e2]; exact sep_oct s w hs h2 _ _ h0 h1 e0 b0 b1 _ rfl hc ho (head_pre s false h2 e0 _ rfl (.inr (.inl no)))
        | false =>
          have no : lowZ (byteAt s 1) ≠ 111 := by simpa using ho
          cases hb : (lowZ (byteAt s 1) == 98) with
          | true =>
            have nb : lowZ (byteAt s 1) = 98 := by simpa using hb
            have e2 : sepSt s = 2 := by unfold sepSt; rw [if_pos ⟨h2, n0, .inr (.inr nb)⟩]
            rw [e1, e2]; exact sep_bin s w hs h2 _ _ h0 h1 e0 b0 b1 _ rfl hc ho hb (head_pre s false h2 e0 _ rfl (.inr (.inr nb)))
          | false =>
            have nb : lowZ (byteAt s 1) ≠ 98 := by simpa using hb
            have e2 : sepSt s = 0 := by unfold sepSt; rw [if_neg (fun h => h.2.2.elim nx (fun h => h.elim no nb))]
            rw [e1, e2]; exact sep_none s w hs h2 _ _ h0 h1 e0 b0 b1 _ rfl hc ho hb H0
  · have e1 : sepHex s = false := by unfold sepHex; simp [h2]
    have e2 : sepSt s = 0 := by unfold sepSt; rw [if_neg (fun h => h2 h.1)]
    rw [e1, e2]; exact sep_short s w hs (by omega) H0
end Go.Proofs.YtnehkpoggkfikaaDoor.Sep
