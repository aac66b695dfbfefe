/-
  The plain law of the statement on the place of a low line (no program in it): what the loop over a number's text keeps true, and what follows at each of its ends. No condition.
-/
import Derived.WalkKit
namespace Go.Proofs.Ytnehkpoggkfikaa
open Go.RowKit

/-- A letter in its lower form, as the walk writes it. -/
def lowZ (c : Int) : Int := bits BinOp.or .i32 32 c
def lowU (c : Int) : Int := bits BinOp.or .u8 c 32
theorem low_fin : ∀ n : Fin 256, lowZ (n.val : Int) = lowU (n.val : Int) ∧ lowZ (n.val : Int) = ((32 ||| n.val : Nat) : Int) := by decide +kernel
theorem low_same (c : Int) (h0 : 0 ≤ c) (h1 : c < 256) : lowZ c = lowU c := by
  have h := low_fin ⟨c.toNat, by omega⟩
  simp only [Int.toNat_of_nonneg h0] at h
  exact h.1
def decB (c : Int) : Bool := decide (48 ≤ c ∧ c ≤ 57)
def hexB (c : Int) : Bool := decide (48 ≤ c ∧ c ≤ 57) || decide (97 ≤ lowZ c ∧ lowZ c ≤ 102)
/-- A digit: with hex also a letter up to f. -/
def digB (hex : Bool) (c : Int) : Bool := decB c || hex && hexB c

/-- The byte at a place, as a number. -/
def byteAt (s : ByteArray) (k : Nat) : Int := if h : k < s.size then (s[k].toNat : Int) else 0
theorem byteAt_get (s : ByteArray) (k : Nat) (h : k < s.size) : (s[k].toNat : Int) = byteAt s k := by
  unfold byteAt; rw [dif_pos h]
theorem byteAt_lt (s : ByteArray) (k : Nat) : 0 ≤ byteAt s k ∧ byteAt s k < 256 := by
  unfold byteAt
  split
  · have := (s[k]).toNat_lt
    omega
  · omega

/-- What stands ahead of the place k is, to the loop: 48 a digit (or the base), 95 a low line, 46 anything else. -/
def cls (hex : Bool) (c : Int) : Int := if c = 95 then 95 else if digB hex c = true then 48 else 46
def dAt (s : ByteArray) (hex : Bool) (st : Nat) (d0 : Int) (k : Nat) : Int := if k = st then d0 else cls hex (byteAt s (k - 1))
/-- No fault was met ahead of the place k. -/
def okTo (s : ByteArray) (hex : Bool) (st : Nat) (d0 : Int) (k : Nat) : Prop :=
  ∀ j, st ≤ j → j < k → (byteAt s j = 95 → dAt s hex st d0 j = 48) ∧ (byteAt s j ≠ 95 → digB hex (byteAt s j) = false → dAt s hex st d0 j ≠ 95)
theorem okTo_start (s : ByteArray) (hex : Bool) (st : Nat) (d0 : Int) : okTo s hex st d0 st := fun j h1 h2 => by omega
theorem dAt_start (s : ByteArray) (hex : Bool) (st : Nat) (d0 : Int) : dAt s hex st d0 st = d0 := by simp [dAt]
theorem dAt_next (s : ByteArray) (hex : Bool) (st : Nat) (d0 : Int) (k : Nat) (h : st ≤ k) : dAt s hex st d0 (k + 1) = cls hex (byteAt s k) := by
  unfold dAt
  rw [if_neg (by omega)]
  rfl
theorem cls_cases (hex : Bool) (c : Int) : cls hex c = 95 ∨ cls hex c = 48 ∨ cls hex c = 46 := by
  unfold cls; split
  · simp
  · split <;> simp
theorem dAt_cases (s : ByteArray) (hex : Bool) (st : Nat) (d0 : Int) (k : Nat) (hd : d0 = 48 ∨ d0 = 46) : dAt s hex st d0 k = 95 ∨ dAt s hex st d0 k = 48 ∨ dAt s hex st d0 k = 46 := by
  unfold dAt; split
  · rcases hd with rfl | rfl <;> simp
  · exact cls_cases _ _

/-- The statement's own words: each low line stands between digits, or between the base and a digit. -/
def leftOk (s : ByteArray) (hex : Bool) (ahead j : Nat) : Prop := 0 < j ∧ (j = ahead ∨ (ahead < j ∧ digB hex (byteAt s (j - 1)) = true))
def rightOk (s : ByteArray) (hex : Bool) (j : Nat) : Prop := j + 1 < s.size ∧ digB hex (byteAt s (j + 1)) = true
def partedTo (s : ByteArray) (hex : Bool) (ahead k : Nat) : Prop := ∀ j, j < k → byteAt s j = 95 → leftOk s hex ahead j ∧ rightOk s hex j
/-- What a text's beginning says: whether its digits are of sixteen, and how long the base is. -/
structure Head (s : ByteArray) (hex : Bool) (st : Nat) (d0 : Int) : Prop where
  kind : (st = 0 ∧ d0 = 46 ∧ hex = false) ∨ (st = 2 ∧ d0 = 48 ∧ 2 ≤ s.size ∧ byteAt s 0 ≠ 95 ∧ byteAt s 1 ≠ 95)

/-- The answer of the place: none exactly where each low line stands right; else that of a low line. -/
def Answer (s : ByteArray) (hex : Bool) (st : Nat) (k : Int) : Prop :=
  (partedTo s hex st s.size ∧ k = -1) ∨ (¬ partedTo s hex st s.size ∧ ∃ j : Nat, k = j ∧ j < s.size ∧ byteAt s j = 95)

theorem okTo_next {s : ByteArray} {hex : Bool} {st : Nat} {d0 : Int} {k : Nat} (h : okTo s hex st d0 k)
    (h1 : byteAt s k = 95 → dAt s hex st d0 k = 48) (h2 : byteAt s k ≠ 95 → digB hex (byteAt s k) = false → dAt s hex st d0 k ≠ 95) : okTo s hex st d0 (k + 1) := by
  intro j hj hk
  by_cases e : j = k
  · subst e; exact ⟨h1, h2⟩
  · exact h j hj (by omega)

theorem cls_95 {hex : Bool} {c : Int} (h : cls hex c = 95) : c = 95 := by
  unfold cls at h; split at h
  · assumption
  · split at h <;> simp at h
theorem cls_48 {hex : Bool} {c : Int} (h : cls hex c = 48) : c ≠ 95 ∧ digB hex c = true := by
  unfold cls at h; split at h
  · simp at h
  · split at h
    · exact ⟨by assumption, by assumption⟩
    · simp at h

/-- A low line with no digit ahead of it: it stands wrong. -/
theorem end_left {s : ByteArray} {hex : Bool} {st : Nat} {d0 : Int} {k : Nat} (H : Head s hex st d0) (hk : st ≤ k) (hlt : k < s.size)
    (hc : byteAt s k = 95) (hd : dAt s hex st d0 k ≠ 48) : Answer s hex st (k : Int) := by
  refine .inr ⟨fun hp => ?_, k, rfl, hlt, hc⟩
  obtain ⟨⟨h0, hl⟩, -⟩ := hp k hlt hc
  apply hd
  rcases hl with rfl | ⟨hl, hdig⟩
  · rcases H.kind with ⟨rfl, _, _⟩ | ⟨_, rfl, _⟩
    · omega
    · simp [dAt]
  · unfold dAt
    rw [if_neg (by omega)]
    unfold cls
    by_cases e : byteAt s (k - 1) = 95
    · obtain ⟨-, hr⟩ := hp (k - 1) (by omega) e
      obtain ⟨_, hr⟩ := hr
      rw [show k - 1 + 1 = k from by omega, hc] at hr
      exact absurd hr (by cases hex <;> decide)
    · rw [if_neg e, if_pos hdig]

/-- A low line with no digit behind it: it stands wrong. -/
theorem end_right {s : ByteArray} {hex : Bool} {st : Nat} {d0 : Int} {k : Nat} (H : Head s hex st d0) (hk : st ≤ k) (hle : k ≤ s.size)
    (hd : dAt s hex st d0 k = 95) (hbad : k = s.size ∨ (byteAt s k ≠ 95 ∧ digB hex (byteAt s k) = false)) : 0 < k ∧ Answer s hex st ((k : Int) - 1) := by
  have hne : k ≠ st := by
    rintro rfl
    rw [dAt_start] at hd
    rcases H.kind with ⟨_, h, _⟩ | ⟨_, h, _⟩ <;> rw [h] at hd <;> simp at hd
  have hk0 : 0 < k := by omega
  have hc : byteAt s (k - 1) = 95 := by
    unfold dAt at hd
    rw [if_neg hne] at hd
    exact cls_95 hd
  refine ⟨hk0, .inr ⟨fun hp => ?_, k - 1, by omega, by omega, hc⟩⟩
  obtain ⟨-, hr1, hr2⟩ := hp (k - 1) (by omega) hc
  rw [show k - 1 + 1 = k from by omega] at hr1 hr2
  rcases hbad with h | ⟨_, h⟩
  · omega
  · rw [h] at hr2; simp at hr2

/-- The end of the text, no fault met: each low line stands right. -/
theorem end_ok {s : ByteArray} {hex : Bool} {st : Nat} {d0 : Int} (H : Head s hex st d0) (ok : okTo s hex st d0 s.size)
    (hd : dAt s hex st d0 s.size ≠ 95) : Answer s hex st (-1) := by
  refine .inl ⟨fun j hj hc => ?_, rfl⟩
  have hst : st ≤ j := by
    rcases H.kind with ⟨rfl, _⟩ | ⟨rfl, _, _, h0, h1⟩
    · omega
    · rcases Nat.lt_or_ge j 2 with h | h
      · rcases Nat.lt_or_ge j 1 with h' | h'
        · obtain rfl : j = 0 := by omega
          exact absurd hc h0
        · obtain rfl : j = 1 := by omega
          exact absurd hc h1
      · exact h
  have hl := (ok j hst hj).1 hc
  constructor
  · by_cases e : j = st
    · subst e
      rw [dAt_start] at hl
      rcases H.kind with ⟨_, h, _⟩ | ⟨rfl, _⟩
      · rw [h] at hl; simp at hl
      · exact ⟨by omega, .inl rfl⟩
    · unfold dAt at hl
      rw [if_neg e] at hl
      exact ⟨by omega, .inr ⟨by omega, (cls_48 hl).2⟩⟩
  · have hn : dAt s hex st d0 (j + 1) = 95 := by
      rw [dAt_next _ _ _ _ _ hst]; simp [cls, hc]
    by_cases e : j + 1 < s.size
    · refine ⟨e, ?_⟩
      obtain ⟨h1, h2⟩ := ok (j + 1) (by omega) e
      by_cases e95 : byteAt s (j + 1) = 95
      · have := h1 e95; rw [hn] at this; simp at this
      · cases hg : digB hex (byteAt s (j + 1)) with
        | true => rfl
        | false => exact absurd hn (h2 e95 hg)
    · exact absurd (by rw [show s.size = j + 1 from by omega]; exact hn) hd

end Go.Proofs.Ytnehkpoggkfikaa
