/-
  The walks through the specification's own allOf and valueOf: whether all bytes of a text are among others, and the value of digits. Conditions: each law's own.
-/
import Derived.Test.YtnehkpoggkfikaaDoorSpec2
import Derived.Test.YtnehkpoggkfikaaDoorShelf
import Derived.Test.YtnehkpoggkfikaaDoorEscB
import Derived.Lib.IndexAny
import Derived.IntWalk
namespace Go.Proofs.YtnehkpoggkfikaaDoor
open Go.RowKit
set_option linter.unusedVariables false

theorem u8_back (c : UInt8) : ((c.toNat : Int)).toNat.toUInt8 = c := by simp
theorem indexByte_calls (t : ByteArray) (c : UInt8) (z : Int) (hz : Lib.indexByte t.data.toList c = z) (w : World) : Calls Tryd.prog 40 #[.string t, .int .u8 (c.toNat : Int)] w fun e w' => e = .returned (.int .i64 z) ∧ w = w' := by
  refine (Tryd.strings_IndexByte t (c.toNat : Int) w).mono ?_
  rintro e w' ⟨rfl, rfl⟩
  rw [u8_back, hz]; exact ⟨rfl, rfl⟩

/-- All bytes of a text are among others, and there are some. -/
def allB (l set : List UInt8) : Bool := !l.isEmpty && l.all fun b => set.contains b
def AllTo (s : ByteArray) (set : List UInt8) (n : Nat) : Prop := ∀ (i : Nat) (hi : i < s.size), i < n → set.contains s[i] = true
theorem allTo_next {s : ByteArray} {set : List UInt8} {n : Nat} (h : AllTo s set n) (h2 : ∀ hi : n < s.size, set.contains s[n] = true) : AllTo s set (n + 1) := fun i hi hlt => by
  by_cases e : i = n
  · subst e; exact h2 hi
  · exact h i hi (by omega)
theorem getElem_list (s : ByteArray) (i : Nat) (hi : i < s.size) : s[i] = s.data.toList[i]'(by simpa using hi) := by simp [ByteArray.getElem_eq_getElem_data]
theorem allB_yes {s : ByteArray} {set : List UInt8} (h0 : 0 < s.size) (h : AllTo s set s.size) : allB s.data.toList set = true := by
  unfold allB
  rw [Bool.and_eq_true]
  refine ⟨?_, ?_⟩
  · have hl : s.data.toList.length = s.size := rfl
    cases hd : s.data.toList with
    | nil => rw [hd] at hl; simp at hl; omega
    | cons a l => rfl
  · rw [List.all_eq_true]
    intro b hb
    obtain ⟨i, hi, rfl⟩ := List.getElem_of_mem hb
    have hi' : i < s.size := by simpa using hi
    rw [← getElem_list s i hi']
    exact h i hi' hi'
theorem allB_no {s : ByteArray} {set : List UInt8} {n : Nat} (hn : n < s.size) (h : set.contains s[n] = false) : allB s.data.toList set = false := by
  unfold allB
  rw [Bool.and_eq_false_iff]
  refine .inr ?_
  rw [List.all_eq_false]
  refine ⟨s[n], ?_, by simpa using h⟩
  rw [getElem_list s n hn]
  exact List.getElem_mem _

set_option maxHeartbeats 2000000 in
theorem allOf_calls (s t : ByteArray) (w : World) (hs : s.size ≤ 2147483647) (b : Bool) (hb : allB s.data.toList t.data.toList = b) : Calls Tryd.prog 41 #[.string s, .string t] w fun e w' => e = .returned (.bool b) ∧ w = w' := by
  have hs' : (s.size : Int) ≤ 2147483647 := by omega
  have HB := Lib.hid hb
  clear hb
  by_cases h0 : s.size = 0
  · have e0 : s = ByteArray.empty := by
      apply ByteArray.ext
      exact Array.eq_empty_of_size_eq_zero h0
    subst e0
    have hb : b = false := HB.out.symm
    subst hb
    go_enter Tryd.func41, Tryd.ntmps41
    go_wp2
    go_loopg [5] 5 (fun g i wr => wr = w ∧ i = .int .i64 0)
    case atStart => exact ⟨rfl, rfl⟩
    case round =>
      obtain ⟨rfl, rfl⟩ := hrel
      go_wp2
      go_ret
      exact ⟨rfl, rfl⟩
  have hne : s.toList.isEmpty = false := by
    cases hd : s.toList with
    | nil =>
      have h2 : s.data.toList = [] := by rw [← ByteArray.toList_eq]; exact hd
      have : s.data.toList.length = s.size := rfl
      rw [h2] at this; simp at this; omega
    | cons a l => rfl
  have hne2 : ¬ s.toList = [] := by intro e; rw [e] at hne; cases hne
  go_enter Tryd.func41, Tryd.ntmps41
  go_wp2
  go_loopg [5] (s.size + 5) (fun g i wr => ∃ (n : Nat), wr = w ∧ g = s.size - n + 5 ∧ n ≤ s.size ∧ i = .int .i64 n ∧ Hid (AllTo s t.data.toList n))
  case atStart => exact ⟨0, rfl, by omega, by omega, rfl, fun i hi h => by omega⟩
  case round =>
    obtain ⟨n, rfl, rfl, hn, rfl, hT⟩ := hrel
    by_cases hlt : n < s.size
    · have hlt' : (n : Int) < (s.size : Int) := by omega
      obtain ⟨z, hz⟩ : ∃ z, Lib.indexByte t.data.toList s[n] = z := ⟨_, rfl⟩
      have hc := Lib.contains_iff_indexByte t.data.toList s[n]
      rw [hz] at hc
      by_cases hz0 : z < 0
      · have hno := Lib.hid (allB_no (set := t.data.toList) hlt (by rw [hc]; simp; omega))
        have HZ := Lib.hid hz
        clear hc hz
        go_wp2_with (go_at_call 40; refine (indexByte_calls t s[n] z HZ.out _).mono ?_; rintro e w' ⟨rfl, rfl⟩)
        go_ret
        exact ⟨by rw [← HB.out, hno.out]; rfl, rfl⟩
      · have hnx := Lib.hid (allTo_next hT.out (fun _ => by rw [hc]; simp; omega))
        have HZ := Lib.hid hz
        clear hc hz
        go_wp2_with (go_at_call 40; refine (indexByte_calls t s[n] z HZ.out _).mono ?_; rintro e w' ⟨rfl, rfl⟩)
        go_roundg (s.size - (n + 1) + 5)
        case measure => omega
        case rel => exact ⟨n + 1, rfl, rfl, by omega, by go_num, hnx.out⟩
    · obtain rfl : n = s.size := by omega
      have hyes := Lib.hid (allB_yes (by omega) hT.out)
      clear h0
      go_wp2
      go_ret
      exact ⟨by rw [← HB.out, hyes.out]; rfl, rfl⟩

/-- The digits in their order: small letters, and great ones. -/
abbrev loDigits : ByteArray := ⟨#[48, 49, 50, 51, 52, 53, 54, 55, 56, 57, 97, 98, 99, 100, 101, 102]⟩
abbrev upDigits : ByteArray := ⟨#[48, 49, 50, 51, 52, 53, 54, 55, 56, 57, 65, 66, 67, 68, 69, 70]⟩
theorem digit_fin : ∀ n : Fin 256, digB 16 n.val < 16 → (0 ≤ Lib.indexByte loDigits.data.toList (UInt8.ofNat n.val) ∧ Lib.indexByte loDigits.data.toList (UInt8.ofNat n.val) = digB 16 n.val) ∨
    (Lib.indexByte loDigits.data.toList (UInt8.ofNat n.val) < 0 ∧ Lib.indexByte upDigits.data.toList (UInt8.ofNat n.val) = digB 16 n.val) := by decide +kernel
theorem u8_fin (c : UInt8) : UInt8.ofNat c.toNat = c := by simp
theorem digit_at (c : UInt8) (h : digB 16 c.toNat < 16) : (∃ z : Int, Lib.indexByte loDigits.data.toList c = z ∧ 0 ≤ z ∧ z = digB 16 c.toNat) ∨ (∃ z : Int, Lib.indexByte loDigits.data.toList c = z ∧ z < 0 ∧ Lib.indexByte upDigits.data.toList c = digB 16 c.toNat) := by
  have := digit_fin ⟨c.toNat, c.toNat_lt⟩ h
  simp only [u8_fin] at this
  rcases this with ⟨h1, h2⟩ | ⟨h1, h2⟩
  · exact .inl ⟨_, rfl, h1, h2⟩
  · exact .inr ⟨_, rfl, h1, h2⟩

/-- The value of digits. -/
def valB (base x : Nat) : List UInt8 → Nat
  | [] => x
  | c :: l => valB base (x * base + digB 16 c.toNat) l
theorem valB_append (base x : Nat) (a b : List UInt8) : valB base x (a ++ b) = valB base (valB base x a) b := by
  induction a generalizing x with
  | nil => rfl
  | cons c l ih => exact ih _
theorem valB_lt (base x : Nat) (l : List UInt8) (hb : base = 8 ∨ base = 16) (hl : ∀ c ∈ l, digB 16 c.toNat < base) : valB base x l + 1 ≤ (x + 1) * base ^ l.length := by
  induction l generalizing x with
  | nil => simp [valB]
  | cons c l ih =>
    have h1 := ih (x * base + digB 16 c.toNat) (fun y hy => hl y (by simp [hy]))
    have h2 := hl c (by simp)
    simp only [valB, List.length_cons, Nat.pow_succ]
    refine Nat.le_trans h1 ?_
    rw [Nat.mul_comm (base ^ l.length) base, ← Nat.mul_assoc]
    refine Nat.mul_le_mul_right _ ?_
    rw [Nat.add_mul]
    omega
/-- The way through digits. -/
def ValTo (s : ByteArray) (base n x : Nat) : Prop := x = valB base 0 (s.data.toList.take n) ∧ x < 16 ^ n
theorem valTo_next {s : ByteArray} {base n x : Nat} (h : ValTo s base n x) (hn : n < s.size) (hb : base = 8 ∨ base = 16) (hl : digB 16 s[n].toNat < 16) : ValTo s base (n + 1) (x * base + digB 16 s[n].toNat) := by
  obtain ⟨h1, h2⟩ := h
  refine ⟨?_, ?_⟩
  · rw [List.take_succ_eq_append_getElem (by simpa using hn), valB_append, ← h1, ← getElem_list s n hn]; rfl
  · rw [Nat.pow_succ]
    have : x * base ≤ x * 16 := Nat.mul_le_mul_left _ (by omega)
    omega

set_option maxHeartbeats 2000000 in
theorem valueOf_calls (s : ByteArray) (base : Nat) (w : World) (hb : base = 8 ∨ base = 16) (hs : s.size ≤ 8) (hl : ∀ c ∈ s.data.toList, digB 16 c.toNat < 16) :
    Calls Tryd.prog 42 #[.string s, .int .i64 (base : Int)] w fun e w' => e = .returned (.int .i64 (valB base 0 s.data.toList : Nat)) ∧ w = w' := by
  have hs' : (s.size : Int) ≤ 8 := by omega
  have HL := Lib.hid hl
  have HB := Lib.hid hb
  have hb1 : (base : Int) ≤ 16 := by omega
  clear hl hb
  go_enter Tryd.func42, Tryd.ntmps42
  go_wp2
  go_loopg [5, 6, 7] (s.size + 5) (fun g x i d wr => ∃ (n X : Nat) (d0 : Value), wr = w ∧ g = s.size - n + 5 ∧ n ≤ s.size ∧ i = .int .i64 n ∧ x = .int .i64 X ∧ d = d0 ∧ Hid (ValTo s base n X))
  case atStart => exact ⟨0, 0, _, rfl, by omega, by omega, rfl, rfl, rfl, ⟨by simp [valB], by simp⟩⟩
  case round =>
    obtain ⟨n, X, d0, rfl, rfl, hn, rfl, rfl, rfl, hT⟩ := hrel
    by_cases hlt : n < s.size
    · have hlt' : (n : Int) < (s.size : Int) := by omega
      have hd16 : digB 16 s[n].toNat < 16 := HL.out _ (by rw [getElem_list s n hlt]; exact List.getElem_mem _)
      have hnx := Lib.hid (valTo_next hT.out hlt HB.out hd16)
      have hX : Hid (X < 268435456) := by
        have h1 := hT.out.2
        have h2 : 16 ^ n ≤ 16 ^ 7 := Nat.pow_le_pow_right (by decide) (by omega)
        show X < 268435456
        omega
      have hXb : Hid ((X : Int) * (base : Int) ≤ (X : Int) * 16) := by
        show _ ≤ _
        exact Int.mul_le_mul_of_nonneg_left (by omega) (by omega)
      have hX0 : Hid (0 ≤ (X : Int) * (base : Int)) := by
        show _ ≤ _
        exact Int.mul_nonneg (by omega) (by omega)
      have hw1 : IntKind.i64.wrap ((X : Int) * (base : Int)) = (X : Int) * (base : Int) := IntWalk.i64_in _ (by have := hX.out; have := hXb.out; have := hX0.out; omega)
      have hw2 : IntKind.i64.wrap ((X : Int) * (base : Int) + (digB 16 s[n].toNat : Int)) = (X : Int) * (base : Int) + (digB 16 s[n].toNat : Int) := IntWalk.i64_in _ (by have := hX.out; have := hXb.out; have := hX0.out; omega)
      have hda := Lib.hid (digit_at s[n] hd16)
      generalize hdv : digB 16 s[n].toNat = dv at *
      have hdv := Lib.hid hdv
      clear hd16
      rcases hda.out with ⟨z, h1, h2, h3⟩ | ⟨z, h1, h2, h3⟩
      · subst h3
        have h1 := Lib.hid h1
        go_wp2_with (go_at_call 40; refine (indexByte_calls loDigits s[n] _ h1.out _).mono ?_; rintro e w' ⟨rfl, rfl⟩)
        go_roundg (s.size - (n + 1) + 5)
        case measure => omega
        case rel => exact ⟨n + 1, X * base + dv, _, rfl, rfl, by omega, by go_num, by go_num, rfl, hnx.out⟩
      · have h1 := Lib.hid h1
        have h3 := Lib.hid h3
        go_wp2_with fail
        go_at_call 40
        refine (indexByte_calls loDigits s[n] z h1.out _).mono ?_
        rintro e w' ⟨rfl, rfl⟩
        go_wp2_with fail
        go_at_call 40
        refine (indexByte_calls upDigits s[n] _ h3.out _).mono ?_
        rintro e w' ⟨rfl, rfl⟩
        go_wp2_with fail
        go_roundg (s.size - (n + 1) + 5)
        case measure => omega
        case rel => exact ⟨n + 1, X * base + dv, _, rfl, rfl, by omega, by go_num, by go_num, rfl, hnx.out⟩
    · obtain rfl : n = s.size := by omega
      have hfin : Hid (X = valB base 0 s.data.toList) := by
        have h1 := hT.out.1
        rw [List.take_of_length_le (by show s.size ≤ s.size; omega)] at h1
        exact h1
      go_wp2
      go_ret
      rw [← hfin.out]; exact ⟨rfl, rfl⟩
end Go.Proofs.YtnehkpoggkfikaaDoor
