/-
  Plain Lean, no program in it: texts as lists of characters, their bytes, and what the library's decoder gives at such bytes. No condition beyond each law's own.
-/
import Derived.Lib.MapLaws
namespace Go.Proofs.YtnehkpoggkfikaaDoor
open Go.Lib

/-- A character that the statements speak of: no NUL, no mark of order, not U+FFFD, a rune. -/
def okR (r : Nat) : Prop := r ≠ 0 ∧ r ≠ 65279 ∧ r ≠ 65533 ∧ (r < 55296 ∨ (57343 < r ∧ r ≤ 1114111))
instance (r : Nat) : Decidable (okR r) := by unfold okR; exact inferInstance
/-- Its bytes. -/
def enc (r : Nat) : List UInt8 := encodeRune (r : Int)
def encs : List Nat → List UInt8
  | [] => []
  | r :: l => enc r ++ encs l
theorem encs_append (a b : List Nat) : encs (a ++ b) = encs a ++ encs b := by
  induction a with
  | nil => rfl
  | cons r l ih => simp [encs, ih]
def okAll (l : List Nat) : Prop := ∀ r ∈ l, okR r
theorem okAll_nil : okAll [] := fun _ h => by cases h
theorem okAll_cons {r : Nat} {l : List Nat} : okAll (r :: l) ↔ okR r ∧ okAll l := by simp [okAll]
theorem okAll_append {a b : List Nat} : okAll (a ++ b) ↔ okAll a ∧ okAll b := by
  simp only [okAll, List.mem_append]
  exact ⟨fun h => ⟨fun r hr => h r (.inl hr), fun r hr => h r (.inr hr)⟩, fun h r hr => hr.elim (h.1 r) (h.2 r)⟩

theorem u8_nat (z : Int) (n : Nat) (h : z = n) (h1 : n < 256) : ((fun x : Int => x.toNat.toUInt8) z).toNat = n := by
  subst h; simp; omega

theorem enc_len_pos (r : Nat) : 1 ≤ (enc r).length := by
  unfold enc encodeRune encodeRuneZ; simp only [List.length_map]; repeat' split
  all_goals simp
theorem enc_len_le (r : Nat) : (enc r).length ≤ 4 := by
  unfold enc encodeRune encodeRuneZ; simp only [List.length_map]; repeat' split
  all_goals simp
theorem enc_ascii (r : Nat) (h : r < 128) : enc r = [r.toUInt8] := by
  unfold enc encodeRune
  rw [encodeRuneZ_one (by omega) (by omega)]
  simp

/-- The four forms of a character's bytes. -/
theorem enc_form (r : Nat) (h : okR r) :
    (r < 128 ∧ ∃ b0 : UInt8, enc r = [b0] ∧ b0.toNat = r) ∨
    (128 ≤ r ∧ ∃ b0 b1 : UInt8, enc r = [b0, b1] ∧ b0.toNat = 192 + r / 64 ∧ b1.toNat = 128 + r % 64 ∧ r < 2048) ∨
    (128 ≤ r ∧ ∃ b0 b1 b2 : UInt8, enc r = [b0, b1, b2] ∧ b0.toNat = 224 + r / 4096 ∧ b1.toNat = 128 + r / 64 % 64 ∧ b2.toNat = 128 + r % 64 ∧ 2048 ≤ r ∧ r < 65536) ∨
    (128 ≤ r ∧ ∃ b0 b1 b2 b3 : UInt8, enc r = [b0, b1, b2, b3] ∧ b0.toNat = 240 + r / 262144 ∧ b1.toNat = 128 + r / 4096 % 64 ∧ b2.toNat = 128 + r / 64 % 64 ∧ b3.toNat = 128 + r % 64 ∧ 65536 ≤ r) := by
  obtain ⟨-, -, -, hv⟩ := h
  unfold enc encodeRune
  by_cases h1 : r < 128
  · refine .inl ⟨h1, ?_⟩
    rw [encodeRuneZ_one (by omega) (by omega)]
    refine ⟨_, rfl, ?_⟩
    exact u8_nat _ _ rfl (by omega)
  by_cases h2 : r < 2048
  · refine .inr (.inl ⟨by omega, ?_⟩)
    rw [encodeRuneZ_two (by omega) (by omega)]
    refine ⟨_, _, rfl, ?_, ?_, h2⟩
    · exact u8_nat _ _ (by omega) (by omega)
    · exact u8_nat _ _ (by omega) (by omega)
  by_cases h3 : r < 65536
  · refine .inr (.inr (.inl ⟨by omega, ?_⟩))
    rw [encodeRuneZ_three (by omega)]
    refine ⟨_, _, _, rfl, ?_, ?_, ?_, by omega, h3⟩
    · exact u8_nat _ _ (by omega) (by omega)
    · exact u8_nat _ _ (by omega) (by omega)
    · exact u8_nat _ _ (by omega) (by omega)
  · refine .inr (.inr (.inr ⟨by omega, ?_⟩))
    rw [encodeRuneZ_four (by omega) (by omega)]
    refine ⟨_, _, _, _, rfl, ?_, ?_, ?_, ?_, by omega⟩
    · exact u8_nat _ _ (by omega) (by omega)
    · exact u8_nat _ _ (by omega) (by omega)
    · exact u8_nat _ _ (by omega) (by omega)
    · exact u8_nat _ _ (by omega) (by omega)

/-- To decode a character's bytes gives the character, whatever stands behind. -/
theorem dec_enc (r : Nat) (h : okR r) (t : List UInt8) : decodeL (enc r ++ t) = (r, (enc r).length) := by
  have hv := h.2.2.2
  rw [decodeL_N]
  rcases enc_form r h with ⟨_, b0, e, h0⟩ | ⟨_, b0, b1, e, h0, h1, _⟩ | ⟨_, b0, b1, b2, e, h0, h1, h2, _⟩ | ⟨_, b0, b1, b2, b3, e, h0, h1, h2, h3, _⟩
  · rw [e]
    simp only [List.cons_append, List.nil_append, List.getD_cons_zero, List.length_cons]
    rw [h0]; unfold decodeN; rw [if_pos (by omega)]; simp
  · rw [e]
    simp only [List.cons_append, List.nil_append, List.getD_cons_zero, List.getD_cons_succ, List.length_cons]
    rw [h0, h1]; unfold decodeN
    rw [if_neg (by omega), if_pos ⟨by omega, by omega, by omega⟩, if_pos (by omega)]
    simp; omega
  · rw [e]
    simp only [List.cons_append, List.nil_append, List.getD_cons_zero, List.getD_cons_succ, List.length_cons]
    rw [h0, h1, h2]; unfold decodeN
    rw [if_neg (by omega), if_neg (by omega), if_pos ⟨by omega, ⟨by omega, by omega⟩, by omega, by omega⟩, if_pos ⟨by omega, by omega⟩]
    simp; omega
  · rw [e]
    simp only [List.cons_append, List.nil_append, List.getD_cons_zero, List.getD_cons_succ, List.length_cons]
    rw [h0, h1, h2, h3]; unfold decodeN
    rw [if_neg (by omega), if_neg (by omega), if_neg (by omega), if_pos ⟨by omega, ⟨by omega, by omega⟩, ⟨by omega, by omega⟩, by omega, by omega⟩, if_pos ⟨by omega, by omega⟩]
    simp; omega

/-- The first byte: below 128 just for ASCII. -/
theorem enc_first (r : Nat) (h : okR r) : ∃ b t, enc r = b :: t ∧ (r < 128 → b.toNat = r ∧ t = []) ∧ (128 ≤ r → 128 ≤ b.toNat) ∧ firstT b.toNat % 8 ≤ (enc r).length := by
  have hv := h.2.2.2
  rcases enc_form r h with ⟨hr, b0, e, h0⟩ | ⟨hr, b0, b1, e, h0, h1, _⟩ | ⟨hr, b0, b1, b2, e, h0, h1, h2, _⟩ | ⟨hr, b0, b1, b2, b3, e, h0, h1, h2, h3, _⟩
  · refine ⟨b0, [], e, fun _ => ⟨h0, rfl⟩, fun _ => by omega, ?_⟩
    rw [e, h0]; unfold firstT; rw [if_pos (by omega)]; simp
  · refine ⟨b0, [b1], e, fun _ => by omega, fun _ => by omega, ?_⟩
    rw [e, h0]; unfold firstT; rw [if_neg (by omega), if_neg (by omega), if_pos (by omega)]; simp
  · refine ⟨b0, [b1, b2], e, fun _ => by omega, fun _ => by omega, ?_⟩
    rw [e, h0]; unfold firstT; rw [if_neg (by omega), if_neg (by omega), if_neg (by omega)]
    repeat' split
    all_goals (simp; try omega)
  · refine ⟨b0, [b1, b2, b3], e, fun _ => by omega, fun _ => by omega, ?_⟩
    rw [e, h0]; unfold firstT; rw [if_neg (by omega), if_neg (by omega), if_neg (by omega), if_neg (by omega), if_neg (by omega), if_neg (by omega), if_neg (by omega)]
    repeat' split
    all_goals (simp; try omega)

theorem decodeN_valid (n b0 b1 b2 b3 : Nat) (h0 : b0 < 256) : (decodeN n b0 b1 b2 b3).1 < 55296 ∨ (57343 < (decodeN n b0 b1 b2 b3).1 ∧ (decodeN n b0 b1 b2 b3).1 ≤ 1114111) := by
  unfold decodeN
  repeat' split
  all_goals (simp only; omega)

/-- A text whose next character is one that the statements speak of begins with its bytes. -/
theorem drop_enc (s : ByteArray) (pos : Nat) (hp : pos < s.size) (h : okR (Utf8.decode s pos).1 ∨ ((Utf8.decode s pos).1 ≠ 0 ∧ (Utf8.decode s pos).1 ≠ 65279 ∧ (Utf8.decode s pos).1 ≠ 65533)) :
    okR (Utf8.decode s pos).1 ∧ (Utf8.decode s pos).2 = (enc (Utf8.decode s pos).1).length ∧ s.data.toList.drop pos = enc (Utf8.decode s pos).1 ++ s.data.toList.drop (pos + (Utf8.decode s pos).2) := by
  have hne : s.data.toList.drop pos ≠ [] := by
    intro e
    have := congrArg List.length e
    simp at this; omega
  have hok : okR (Utf8.decode s pos).1 := by
    rcases h with h | ⟨h1, h2, h3⟩
    · exact h
    · refine ⟨h1, h2, h3, ?_⟩
      rw [decode_N]
      exact decodeN_valid _ _ _ _ _ (UInt8.toNat_lt _)
  rw [← decodeL_drop] at *
  have he := encode_decode (s.data.toList.drop pos) hne (fun hx => hok.2.2.1 hx.1)
  have hl := decodeL_le (s.data.toList.drop pos) hne
  have hlen : (decodeL (s.data.toList.drop pos)).2 = (enc (decodeL (s.data.toList.drop pos)).1).length := by
    unfold enc; rw [he, List.length_take]; omega
  refine ⟨hok, hlen, ?_⟩
  rw [← List.drop_drop]
  unfold enc; rw [he, List.take_append_drop]

end Go.Proofs.YtnehkpoggkfikaaDoor
