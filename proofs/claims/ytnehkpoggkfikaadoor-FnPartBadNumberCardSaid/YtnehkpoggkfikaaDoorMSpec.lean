/-
  The walk through the specification's own Index: a text's first place in another. Condition: the texts are no longer than 100000 bytes.
  The walks through the specification's own run and exponentOk: digits with single low lines between. Condition: the texts are no longer than 2000 bytes.
  The walks through the specification's own cut, exponentOk and isInt. Condition: the texts are no longer than 2000 bytes.
  The walk through the specification's own isInt. Condition: the text is no longer than 2000 bytes. (Printed by genisint.py.)
  The walk through the specification's own isFloat. Condition: the text is no longer than 2000 bytes.
-/
import Derived.Test.YtnehkpoggkfikaaDoorProg
import Derived.WalkKit
import Derived.WalkSpells
import Derived.WalkLawsBesides
import Derived.Outline
import Derived.Lib.Hide
import Derived.Deep.LoopGhost
import Derived.Test.YtnehkpoggkfikaaDoorSpecA
import Derived.Test.YtnehkpoggkfikaaDoorMNumA
namespace Go.Proofs.YtnehkpoggkfikaaDoor
open Go.RowKit
set_option linter.unusedVariables false

/-- The text x stands nowhere in s ahead of the place n. -/
def NotUp (s x : ByteArray) (n : Nat) : Prop := ∀ i, i < n → i + x.size ≤ s.size → s.extract i (i + x.size) ≠ x
theorem notUp_next {s x : ByteArray} {n : Nat} (h : NotUp s x n) (h2 : s.extract n (n + x.size) ≠ x) : NotUp s x (n + 1) := fun i hi hle => by
  by_cases e : i = n
  · subst e; exact h2
  · exact h i (by omega) hle
theorem notUp_end {s x : ByteArray} {n : Nat} (h : NotUp s x n) (h2 : ¬ n + x.size ≤ s.size) : NotUp s x (s.size + 1) := fun i hi hle => h i (by omega) hle
/-- What Index gives: below nought, the text stands nowhere. -/
def IdxQ (s x : ByteArray) (w : World) (e : Ending) (w' : World) : Prop := (∃ z : Int, e = .returned (.int .i64 z) ∧ (z < 0 → NotUp s x (s.size + 1))) ∧ w = w'

set_option maxHeartbeats 2000000 in
theorem index_calls (s x : ByteArray) (w : World) (hs : s.size ≤ 100000) (hx : x.size ≤ 100000) : Calls Tryd.prog 69 #[.string s, .string x] w (IdxQ s x w) := by
  have hs' : (s.size : Int) ≤ 100000 := by omega
  have hx' : (x.size : Int) ≤ 100000 := by omega
  go_enter Tryd.func69, Tryd.ntmps69
  go_wp2
  go_loopg [5] (s.size + 1) (fun g i wr => ∃ (n : Nat), wr = w ∧ g = s.size + 1 - n ∧ n ≤ s.size + 1 ∧ i = .int .i64 n ∧ Hid (NotUp s x n))
  case atStart => exact ⟨0, rfl, rfl, by omega, rfl, fun i h => by omega⟩
  case round =>
    obtain ⟨n, rfl, rfl, hn, rfl, hT⟩ := hrel
    by_cases hlt : n + x.size ≤ s.size
    · have hlt' : (n : Int) + (x.size : Int) ≤ (s.size : Int) := by omega
      obtain ⟨y, hy⟩ : ∃ y, s.extract n (n + x.size) = y := ⟨_, rfl⟩
      have HY := Lib.hid hy
      go_wp2_with fail
      · rename_i hq
        go_ret
        exact ⟨⟨n, rfl, fun h => by omega⟩, rfl⟩
      · rename_i hq
        have HN := Lib.hid (notUp_next hT.out (fun e => by rw [hy] at e; rw [e] at hq; simp at hq))
        go_roundg (s.size + 1 - (n + 1))
        case measure => omega
        case rel => exact ⟨n + 1, rfl, rfl, by omega, by go_num, HN.out⟩
    · have hlt' : ¬ (n : Int) + (x.size : Int) ≤ (s.size : Int) := by omega
      have HN := Lib.hid (notUp_end hT.out hlt)
      go_wp2
      go_ret
      exact ⟨⟨-1, rfl, fun _ => HN.out⟩, rfl⟩
end Go.Proofs.YtnehkpoggkfikaaDoor

namespace Go.Proofs.YtnehkpoggkfikaaDoor
open Go.RowKit
set_option linter.unusedVariables false

/-- A text's bytes as numbers. -/
def toN (s : ByteArray) : List Nat := s.data.toList.map (·.toNat)
theorem toN_len (s : ByteArray) : (toN s).length = s.size := by unfold toN; rw [List.length_map]; rfl
theorem toN_get (s : ByteArray) (i : Nat) (h : i < s.size) : (toN s)[i]'(by rw [toN_len]; exact h) = s[i].toNat := by
  unfold toN; rw [List.getElem_map, getElem_list s i h]
theorem toN_empty : toN ⟨#[]⟩ = [] := rfl
theorem toN_eq {s : ByteArray} {l : List UInt8} (h : s = ⟨l.toArray⟩) : toN s = l.map (·.toNat) := by rw [h]; rfl
theorem size_zero {s : ByteArray} (h : s.size = 0) : s = ByteArray.empty := by
  apply ByteArray.ext
  exact Array.eq_empty_of_size_eq_zero h
theorem toList_ne {s : ByteArray} (h : s.size ≠ 0) : s.toList.isEmpty = false ∧ ¬ s.toList = [] := by
  have hd : ¬ s.toList = [] := fun e => by
    have h2 : s.data.toList = [] := by rw [← ByteArray.toList_eq]; exact e
    have : s.data.toList.length = s.size := rfl
    rw [h2] at this; simp at this; omega
  refine ⟨?_, hd⟩
  cases he : s.toList with
  | nil => exact absurd he hd
  | cons a l => rfl
theorem toN_tail (s : ByteArray) (k : Nat) (h : k ≤ s.size) : toN (s.extract k s.size) = (toN s).drop k := by
  unfold toN
  rw [ByteArray.data_extract, Array.toList_extract]
  show List.map _ (List.take (s.size - k) (List.drop k s.data.toList)) = _
  rw [List.take_of_length_le (by rw [List.length_drop]; exact Nat.le_refl _), List.map_drop]
theorem toN_head (s : ByteArray) (k : Nat) (h : k ≤ s.size) : toN (s.extract 0 k) = (toN s).take k := by
  unfold toN
  rw [ByteArray.data_extract, Array.toList_extract, List.map_take]
  simp
/-- The bytes of a text. -/
def InSet (t : ByteArray) (c : Nat) : Prop := ∃ u ∈ t.data.toList, u.toNat = c
/-- Digits of a set, with single low lines between. -/
def RunQ (s t : ByteArray) : Prop := Grp (InSet t) (toN s) ∧ (toN s).head? ≠ some 95
def BoolQ (P : Prop) (w : World) (e : Ending) (w' : World) : Prop := (∃ b, e = .returned (.bool b) ∧ (b = true → P)) ∧ w = w'
theorem u8_95 {u : UInt8} (h : u.toNat = 95) : u = 95 := UInt8.toNat_inj.1 (by rw [h]; rfl)
theorem run_of {s t T : ByteArray} (hT : T = t ++ ⟨#[95]⟩) (hA : allB s.data.toList T.data.toList = true) (h0 : 0 < s.size) (e0 : s[0].toNat ≠ 95) (e1 : s[s.size - 1].toNat ≠ 95) (hN : NotUp s ⟨#[95, 95]⟩ (s.size + 1)) : RunQ s t := by
  have hl : (toN s).length = s.size := toN_len s
  refine ⟨⟨?_, ?_, ?_, ?_⟩, ?_⟩
  · intro e; rw [e] at hl; simp at hl; omega
  · intro c hc
    unfold toN at hc
    obtain ⟨u, hu, rfl⟩ := List.mem_map.1 hc
    unfold allB at hA
    rw [Bool.and_eq_true, List.all_eq_true] at hA
    have := hA.2 u hu
    rw [hT] at this
    simp only [ByteArray.data_append, Array.toList_append, List.contains_eq_mem, List.mem_append, decide_eq_true_eq] at this
    rcases this with h | h
    · exact .inr ⟨u, h, rfl⟩
    · left
      have : u = 95 := by simpa using h
      rw [this]; rfl
  · intro b e
    have hlen : s.size = b.length + 1 := by rw [← hl, e]; simp
    apply e1
    rw [← toN_get s _ (by omega)]
    have : s.size - 1 = b.length := by omega
    simp only [e, this]
    simp
  · intro b c e
    unfold toN at e
    obtain ⟨l1, l2, e2, h1, h2⟩ := List.map_eq_append_iff.1 e
    obtain ⟨u, l3, e3, hu, h3⟩ := List.map_eq_cons_iff.1 h2
    obtain ⟨v, l4, e4, hv, h4⟩ := List.map_eq_cons_iff.1 h3
    have hu := u8_95 hu
    have hv := u8_95 hv
    subst e3 e4 hu hv
    have hle : l1.length + 2 ≤ s.size := by
      have : s.data.toList.length = s.size := rfl
      rw [e2] at this; simp at this; omega
    refine hN l1.length (by omega) hle ?_
    apply ByteArray.ext
    apply Array.toList_inj.1
    rw [ByteArray.data_extract, Array.toList_extract, e2]
    show List.take (l1.length + 2 - l1.length) (List.drop l1.length (l1 ++ 95 :: 95 :: l4)) = [95, 95]
    rw [List.drop_left, show l1.length + 2 - l1.length = 2 from by omega]
    rfl
  · intro e
    apply e0
    rw [← toN_get s 0 h0]
    rw [List.head?_eq_getElem?] at e
    exact (List.getElem?_eq_some_iff.1 e).2

set_option maxHeartbeats 2000000 in
theorem run_calls (s t : ByteArray) (w : World) (hs : s.size ≤ 2000) (ht : t.size ≤ 100) : Calls Tryd.prog 48 #[.string s, .string t] w (BoolQ (RunQ s t) w) := by
  have hlen : ¬ 9223372036854775807 < t.size + 1 := by omega
  have hs' : (s.size : Int) ≤ 2000 := by omega
  obtain ⟨T, hT⟩ : ∃ T : ByteArray, T = t ++ ⟨#[95]⟩ := ⟨_, rfl⟩
  have HT := Lib.hid hT
  clear hT
  cases hA : allB s.data.toList T.data.toList with
  | false =>
    have HA := Lib.hid hA
    clear hA
    go_enter Tryd.func48, Tryd.ntmps48
    go_wp2_with (go_at_call 41; rw [← HT.out]; refine (allOf_calls s T _ (by omega) false HA.out).mono ?_; rintro e w' ⟨rfl, rfl⟩)
    go_ret
    exact ⟨⟨false, rfl, fun h => by cases h⟩, rfl⟩
  | true =>
    have h0 : 0 < s.size := by
      unfold allB at hA
      rw [Bool.and_eq_true] at hA
      cases hd : s.data.toList with
      | nil => rw [hd] at hA; simp at hA
      | cons a l =>
        have : s.data.toList.length = s.size := rfl
        rw [hd] at this; simp at this; omega
    have HA := Lib.hid hA
    clear hA
    have h0' : (1 : Int) ≤ (s.size : Int) := by omega
    by_cases e0 : s[0].toNat = 95
    · have t0 : ((s[0].toNat : Int) != 95) = false := by simp [e0]
      clear e0
      go_enter Tryd.func48, Tryd.ntmps48
      go_wp2_with (go_at_call 41; rw [← HT.out]; refine (allOf_calls s T _ (by omega) true HA.out).mono ?_; rintro e w' ⟨rfl, rfl⟩)
      go_ret
      exact ⟨⟨false, rfl, fun h => by cases h⟩, rfl⟩
    · have t0 : ((s[0].toNat : Int) != 95) = true := by simp; omega
      have E0 := Lib.hid e0
      have hl1 : s.size - 1 < s.size := by omega
      by_cases e1 : s[s.size - 1].toNat = 95
      · have t1 : ((s[s.size - 1].toNat : Int) != 95) = false := by simp [e1]
        clear e0 e1
        go_enter Tryd.func48, Tryd.ntmps48
        go_wp2_with (go_at_call 41; rw [← HT.out]; refine (allOf_calls s T _ (by omega) true HA.out).mono ?_; rintro e w' ⟨rfl, rfl⟩)
        go_ret
        exact ⟨⟨false, rfl, fun h => by cases h⟩, rfl⟩
      · have t1 : ((s[s.size - 1].toNat : Int) != 95) = true := by simp; omega
        have E1 := Lib.hid e1
        clear e0 e1
        go_enter Tryd.func48, Tryd.ntmps48
        go_wp2_with (first | (go_at_call 41; rw [← HT.out]; refine (allOf_calls s T _ (by omega) true HA.out).mono ?_; rintro e w' ⟨rfl, rfl⟩) | (go_at_call 69; refine (index_calls s ⟨#[95, 95]⟩ _ (by omega) (by decide)).mono ?_; rintro e w' ⟨⟨z, rfl, hz⟩, rfl⟩; have HZ := Lib.hid hz; clear hz))
        go_ret
        exact ⟨⟨_, rfl, fun h => run_of HT.out HA.out h0 E0.out E1.out (HZ.out (by simpa using h))⟩, rfl⟩

/-- The digits of a base. -/
theorem runQ_run {s t : ByteArray} {m : Nat} (h : RunQ s t) (ht : ∀ u ∈ t.data.toList, dOf m u.toNat) : Run m (toN s) :=
  ⟨⟨h.1.ne, fun c hc => (h.1.cls c hc).imp id (fun ⟨u, hu, e⟩ => e ▸ ht u hu), h.1.last, h.1.dbl⟩, h.2⟩
def decs : ByteArray := ⟨#[48, 49, 50, 51, 52, 53, 54, 55, 56, 57]⟩
def hexs : ByteArray := ⟨#[48, 49, 50, 51, 52, 53, 54, 55, 56, 57, 97, 98, 99, 100, 101, 102, 65, 66, 67, 68, 69, 70]⟩
def octs : ByteArray := ⟨#[48, 49, 50, 51, 52, 53, 54, 55]⟩
def bins : ByteArray := ⟨#[48, 49]⟩
instance (m c : Nat) : Decidable (dOf m c) := by unfold dOf; exact inferInstance
theorem decs_ok : ∀ u ∈ decs.data.toList, dOf 10 u.toNat := by decide +kernel
theorem hexs_ok : ∀ u ∈ hexs.data.toList, dOf 16 u.toNat := by decide +kernel
theorem octs_ok : ∀ u ∈ octs.data.toList, dOf 8 u.toNat := by decide +kernel
theorem bins_ok : ∀ u ∈ bins.data.toList, dOf 2 u.toNat := by decide +kernel
theorem run_dec (s : ByteArray) (w : World) (hs : s.size ≤ 2000) : Calls Tryd.prog 48 #[.string s, .string ⟨#[48, 49, 50, 51, 52, 53, 54, 55, 56, 57]⟩] w (BoolQ (Run 10 (toN s)) w) :=
  (run_calls s decs w hs (by decide)).mono fun e w' ⟨⟨b, he, hb⟩, hw⟩ => ⟨⟨b, he, fun h => runQ_run (hb h) decs_ok⟩, hw⟩
theorem run_hex (s : ByteArray) (w : World) (hs : s.size ≤ 2000) : Calls Tryd.prog 48 #[.string s, .string ⟨#[48, 49, 50, 51, 52, 53, 54, 55, 56, 57, 97, 98, 99, 100, 101, 102, 65, 66, 67, 68, 69, 70]⟩] w (BoolQ (Run 16 (toN s)) w) :=
  (run_calls s hexs w hs (by decide)).mono fun e w' ⟨⟨b, he, hb⟩, hw⟩ => ⟨⟨b, he, fun h => runQ_run (hb h) hexs_ok⟩, hw⟩
theorem run_oct (s : ByteArray) (w : World) (hs : s.size ≤ 2000) : Calls Tryd.prog 48 #[.string s, .string ⟨#[48, 49, 50, 51, 52, 53, 54, 55]⟩] w (BoolQ (Run 8 (toN s)) w) :=
  (run_calls s octs w hs (by decide)).mono fun e w' ⟨⟨b, he, hb⟩, hw⟩ => ⟨⟨b, he, fun h => runQ_run (hb h) octs_ok⟩, hw⟩
theorem run_bin (s : ByteArray) (w : World) (hs : s.size ≤ 2000) : Calls Tryd.prog 48 #[.string s, .string ⟨#[48, 49]⟩] w (BoolQ (Run 2 (toN s)) w) :=
  (run_calls s bins w hs (by decide)).mono fun e w' ⟨⟨b, he, hb⟩, hw⟩ => ⟨⟨b, he, fun h => runQ_run (hb h) bins_ok⟩, hw⟩
end Go.Proofs.YtnehkpoggkfikaaDoor

namespace Go.Proofs.YtnehkpoggkfikaaDoor
open Go.RowKit
set_option linter.unusedVariables false

/-- What cut gives: the text parted at one of the bytes, or whole. -/
def Parts (s t : ByteArray) (a b : ByteArray) (ok : Bool) : Prop := a.size ≤ s.size ∧ b.size ≤ s.size ∧ ((ok = true ∧ ∃ c, InSet t c ∧ toN s = toN a ++ c :: toN b) ∨ (ok = false ∧ toN a = toN s ∧ b = ⟨#[]⟩))
def CutQ (s t : ByteArray) (w : World) (e : Ending) (w' : World) : Prop := ∃ a b ok, e = .returned (.tuple #[.string a, .string b, .bool ok]) ∧ Parts s t a b ok ∧ Below w.heap.size w w'
theorem parts_at {s t : ByteArray} {n : Nat} (h : n < s.size) (hc : t.data.toList.contains s[n] = true) : Parts s t (s.extract 0 n) (s.extract (n + 1) s.size) true := by
  refine ⟨by rw [ByteArray.size_extract]; omega, by rw [ByteArray.size_extract]; omega, .inl ⟨rfl, s[n].toNat, ⟨s[n], by simpa using hc, rfl⟩, ?_⟩⟩
  rw [toN_head s n (by omega), toN_tail s (n + 1) (by omega)]
  have hl : n < (toN s).length := by rw [toN_len]; exact h
  conv => lhs; rw [← List.take_append_drop n (toN s), List.drop_eq_getElem_cons hl, toN_get s n h]
theorem parts_no (s t : ByteArray) : Parts s t s ⟨#[]⟩ false := ⟨Nat.le_refl _, Nat.zero_le _, .inr ⟨rfl, rfl, rfl⟩⟩

set_option maxHeartbeats 2000000 in
theorem cut_calls (s t : ByteArray) (w : World) (hs : s.size ≤ 2000) : Calls Tryd.prog 67 #[.string s, .string t] w (CutQ s t w) := by
  have hs' : (s.size : Int) ≤ 2000 := by omega
  go_enter Tryd.func67, Tryd.ntmps67
  go_wp2
  go_loopg [7] (s.size + 5) (fun g i wr => ∃ (n : Nat), wr = w ∧ g = s.size - n + 5 ∧ n ≤ s.size ∧ i = .int .i64 n)
  case atStart => exact ⟨0, rfl, by omega, by omega, rfl⟩
  case round =>
    obtain ⟨n, rfl, rfl, hn, rfl⟩ := hrel
    by_cases hlt : n < s.size
    · have hlt' : (n : Int) < (s.size : Int) := by omega
      obtain ⟨z, hz⟩ : ∃ z, Lib.indexByte t.data.toList s[n] = z := ⟨_, rfl⟩
      have hc := Lib.contains_iff_indexByte t.data.toList s[n]
      rw [hz] at hc
      have HZ := Lib.hid hz
      clear hz
      by_cases hz0 : z < 0
      · clear hc
        go_wp2_with (go_at_call 40; refine (indexByte_calls t s[n] z HZ.out _).mono ?_; rintro e w' ⟨rfl, rfl⟩)
        go_roundg (s.size - (n + 1) + 5)
        case measure => omega
        case rel => exact ⟨n + 1, rfl, rfl, by omega, by go_num⟩
      · have HC := Lib.hid (parts_at (t := t) hlt (by rw [hc]; simp; omega))
        clear hc
        go_wp2_with (go_at_call 40; refine (indexByte_calls t s[n] z HZ.out _).mono ?_; rintro e w' ⟨rfl, rfl⟩)
        go_quiet (fail)
        go_wp2
        refine bodyPost_ret (v := .tuple #[.string (s.extract 0 n), .string (s.extract (n + 1) s.size), .bool true]) (by simp [results, Tryd.results67, go_sem]) rfl ⟨_, _, true, rfl, HC.out, ?_⟩
        exact ⟨rfl, rfl, rfl, Nat.le_refl _, fun _ _ => rfl⟩
    · obtain rfl : n = s.size := by omega
      go_wp2
      try go_quiet (fail)
      try go_wp2
      refine bodyPost_ret (v := .tuple #[.string s, .string ⟨#[]⟩, .bool false]) (by simp [results, Tryd.results67, go_sem]) rfl ⟨_, _, false, rfl, parts_no s t, ?_⟩
      exact ⟨rfl, rfl, rfl, Nat.le_refl _, fun _ _ => rfl⟩

/-- An exponent: a sign or none, and digits. -/
def ExpIs (s : ByteArray) : Prop := ∃ sg ds, toN s = sg ++ ds ∧ (sg = [] ∨ sg = [43] ∨ sg = [45]) ∧ Run 10 ds
theorem expIs_plain {s : ByteArray} (h : Run 10 (toN s)) : ExpIs s := ⟨[], _, rfl, .inl rfl, h⟩
theorem expIs_sign {s : ByteArray} (h0 : 0 < s.size) (hc : s[0].toNat = 43 ∨ s[0].toNat = 45) (h : Run 10 (toN (s.extract 1 s.size))) : ExpIs s := by
  rw [toN_tail s 1 (by omega)] at h
  have hl : 0 < (toN s).length := by rw [toN_len]; exact h0
  have e : toN s = [s[0].toNat] ++ (toN s).drop 1 := by
    conv => lhs; rw [← List.drop_zero (l := toN s), List.drop_eq_getElem_cons hl, toN_get s 0 h0]
    rfl
  refine ⟨[s[0].toNat], _, e, ?_, h⟩
  rcases hc with h | h <;> rw [h]
  · exact .inr (.inl rfl)
  · exact .inr (.inr rfl)
set_option maxHeartbeats 2000000 in
theorem exponentOk_calls (s : ByteArray) (w : World) (hs : s.size ≤ 2000) : Calls Tryd.prog 68 #[.string s] w (BoolQ (ExpIs s) w) := by
  have hs' : (s.size : Int) ≤ 2000 := by omega
  by_cases h0 : s.size = 0
  · have e0 := size_zero h0
    subst e0
    go_enter Tryd.func68, Tryd.ntmps68
    go_wp2_with (go_at_call 48; refine (run_dec _ _ (by decide)).mono ?_; rintro e w' ⟨⟨b, rfl, hb⟩, rfl⟩; have HB := Lib.hid hb; clear hb)
    go_ret
    exact ⟨⟨_, rfl, fun h => expIs_plain (HB.out h)⟩, rfl⟩
  obtain ⟨hne, hne2⟩ := toList_ne h0
  have h1 : 0 < s.size := by omega
  have h1' : (1 : Int) ≤ (s.size : Int) := by omega
  have HX := Lib.hid (expIs_sign h1)
  by_cases hp : s[0].toNat = 43
  · have t0 : ((s[0].toNat : Int) == 43) = true := by simp [hp]
    have HX := Lib.hid (HX.out (.inl hp))
    clear hp h0
    go_enter Tryd.func68, Tryd.ntmps68
    go_wp2_with (go_at_call 48; refine (run_dec _ _ (by rw [ByteArray.size_extract]; omega)).mono ?_; rintro e w' ⟨⟨b, rfl, hb⟩, rfl⟩; have HB := Lib.hid hb; clear hb)
    go_ret
    exact ⟨⟨_, rfl, fun h => HX.out (HB.out h)⟩, rfl⟩
  · have t0 : ((s[0].toNat : Int) == 43) = false := by simp; omega
    by_cases hm : s[0].toNat = 45
    · have t1 : ((s[0].toNat : Int) == 45) = true := by simp [hm]
      have HX := Lib.hid (HX.out (.inr hm))
      clear hp hm h0
      go_enter Tryd.func68, Tryd.ntmps68
      go_wp2_with (go_at_call 48; refine (run_dec _ _ (by rw [ByteArray.size_extract]; omega)).mono ?_; rintro e w' ⟨⟨b, rfl, hb⟩, rfl⟩; have HB := Lib.hid hb; clear hb)
      go_ret
      exact ⟨⟨_, rfl, fun h => HX.out (HB.out h)⟩, rfl⟩
    · have t1 : ((s[0].toNat : Int) == 45) = false := by simp; omega
      clear hp hm h0
      go_enter Tryd.func68, Tryd.ntmps68
      go_wp2_with (go_at_call 48; refine (run_dec _ _ (by omega)).mono ?_; rintro e w' ⟨⟨b, rfl, hb⟩, rfl⟩; have HB := Lib.hid hb; clear hb)
      go_ret
      exact ⟨⟨_, rfl, fun h => expIs_plain (HB.out h)⟩, rfl⟩
end Go.Proofs.YtnehkpoggkfikaaDoor

namespace Go.Proofs.YtnehkpoggkfikaaDoor
open Go.RowKit
set_option linter.unusedVariables false

/-- A low line ahead struck, or not. -/
def TrimIs (s r : ByteArray) : Prop := r.size ≤ s.size ∧ (toN r = toN s ∨ toN s = 95 :: toN r)
theorem trim_is (s : ByteArray) : TrimIs s ⟨(Lib.trimPrefix s.data.toList [95]).toArray⟩ := by
  unfold Lib.trimPrefix TrimIs
  have hz : s.data.toList.length = s.size := rfl
  cases hl : s.data.toList with
  | nil =>
    have e : Lib.hasPrefix [] [95] = false := rfl
    rw [e]
    simp only [Bool.false_eq_true, if_false]
    exact ⟨Nat.zero_le _, .inl (by unfold toN; rw [hl])⟩
  | cons a l =>
    rw [hl] at hz
    by_cases ha : a = 95
    · subst ha
      have e : Lib.hasPrefix (95 :: l) [95] = true := by unfold Lib.hasPrefix; simp
      rw [e, if_pos rfl]
      refine ⟨?_, .inr ?_⟩
      · show ((95 :: l).drop 1).toArray.size ≤ _
        simp at hz ⊢; omega
      · unfold toN; rw [hl]; rfl
    · have e : Lib.hasPrefix (a :: l) [95] = false := by unfold Lib.hasPrefix; simp [List.isPrefixOf]; exact fun h => ha h.symm
      rw [e]
      simp only [Bool.false_eq_true, if_false]
      refine ⟨?_, .inl ?_⟩
      · show (a :: l).toArray.size ≤ _
        simp at hz ⊢; omega
      · unfold toN; rw [hl]
theorem trim_calls (s : ByteArray) (w : World) : Calls Tryd.prog 65 #[.string s, .string ⟨#[95]⟩] w fun e w' => (∃ r, e = .returned (.string r) ∧ TrimIs s r) ∧ w = w' := by
  refine (Tryd.strings_TrimPrefix s ⟨#[95]⟩ w).mono ?_
  rintro e w' ⟨rfl, rfl⟩
  exact ⟨⟨_, rfl, trim_is s⟩, rfl⟩
theorem grp_trim {s r : ByteArray} {m : Nat} (h : TrimIs s r) (hr : Run m (toN r)) : Grp (dOf m) (toN s) := by
  rcases h.2 with e | e
  · rw [← e]; exact hr.1
  · rw [e]
    refine ⟨by simp, fun c hc => ?_, fun b e2 => ?_, fun b c e2 => ?_⟩
    · rcases List.mem_cons.1 hc with h | h
      · exact .inl h
      · exact hr.1.cls c h
    · cases b with
      | nil => injection e2 with _ e3; exact hr.1.ne e3
      | cons x b => injection e2 with _ e3; exact hr.1.last b e3
    · cases b with
      | nil => injection e2 with _ e3; exact hr.2 (by rw [e3]; rfl)
      | cons x b => injection e2 with _ e3; exact hr.1.dbl b c e3
theorem toN_cons {s : ByteArray} (h : 1 ≤ s.size) : toN s = s[0].toNat :: toN (s.extract 1 s.size) := by
  rw [toN_tail s 1 h]
  have hl : 0 < (toN s).length := by rw [toN_len]; exact h
  conv => lhs; rw [← List.drop_zero (l := toN s), List.drop_eq_getElem_cons hl, toN_get s 0 h]
theorem toN_cons2 {s : ByteArray} (h : 2 ≤ s.size) : toN s = s[0].toNat :: s[1].toNat :: toN (s.extract 2 s.size) := by
  rw [toN_tail s 2 h]
  have hl : 0 < (toN s).length := by rw [toN_len]; omega
  have hl1 : 1 < (toN s).length := by rw [toN_len]; omega
  conv => lhs; rw [← List.drop_zero (l := toN s), List.drop_eq_getElem_cons hl, List.drop_eq_getElem_cons hl1, toN_get s 0 (by omega), toN_get s 1 (by omega)]

set_option maxHeartbeats 4000000 in
theorem isInt_calls (s : ByteArray) (w : World) (hs : s.size ≤ 2000) : Calls Tryd.prog 46 #[.string s] w fun e w' => (∃ b, e = .returned (.bool b) ∧ (b = true → IntL (toN s))) ∧ Below w.heap.size w w' := by
  have hs' : (s.size : Int) ≤ 2000 := by omega
  by_cases h2 : s.size < 2
  · have h2' : (s.size : Int) < 2 := by omega
    have hz : Hid (s.size < 2) := h2
    clear h2
    go_enter Tryd.func46, Tryd.ntmps46
    go_wp2_with (go_at_call 48; refine (run_dec _ _ (by omega)).mono ?_; rintro e w' ⟨⟨b, rfl, hb⟩, rfl⟩; have HB := Lib.hid hb; clear hb)
    go_ret
    refine ⟨⟨_, rfl, fun h => .dec _ (HB.out h) (.inl ?_)⟩, Below.refl _ _⟩
    have h1 := (HB.out h).1.ne
    have h3 := toN_len s
    have hz := hz.out
    cases hl : toN s with
    | nil => exact absurd hl h1
    | cons a l => rw [hl] at h3; simp only [List.length_cons] at h3 ⊢; omega
  have h2' : ¬ (s.size : Int) < 2 := by omega
  have h2i : (2 : Int) ≤ (s.size : Int) := by omega
  have l0 : 0 < s.size := by omega
  have l1 : 1 < s.size := by omega
  have E1 := Lib.hid (toN_cons (s := s) (by omega))
  have E2 := Lib.hid (toN_cons2 (s := s) (by omega))
  have hle1 : Hid ((s.extract 1 s.size).size ≤ 2000) := by show _ ≤ _; rw [ByteArray.size_extract]; omega
  have hle2 : Hid ((s.extract 2 s.size).size ≤ 2000) := by show _ ≤ _; rw [ByteArray.size_extract]; omega
  by_cases h0 : s[0].toNat = 48
  case neg =>
    have t0 : ((s[0].toNat : Int) != 48) = true := by simp; omega
    have H0 : Hid (s[0].toNat ≠ 48) := h0
    clear h0
    go_enter Tryd.func46, Tryd.ntmps46
    go_wp2_with (go_at_call 48; refine (run_dec _ _ (by omega)).mono ?_; rintro e w' ⟨⟨b, rfl, hb⟩, rfl⟩; have HB := Lib.hid hb; clear hb)
    go_ret
    refine ⟨⟨_, rfl, fun h => .dec _ (HB.out h) (.inr ?_)⟩, Below.refl _ _⟩
    rw [E1.out]
    intro e
    exact H0.out (by simpa using e)
  have t0 : ((s[0].toNat : Int) != 48) = false := by simp [h0]
  have E0 : Hid (s[0].toNat = 48) := h0
  clear h0
  by_cases h120 : s[1].toNat = 120
  · have t120 : ((s[1].toNat : Int) == 120) = true := by simp [h120]
    have EX : Hid (∀ g, Grp (dOf 16) g → g = toN (s.extract 2 s.size) → IntL (toN s)) := by
      intro g hg e
      rw [E2.out, E0.out, h120, ← e]; exact .pre 16 120 g hg (.inl ⟨rfl, .inl rfl⟩)
    clear h120
    go_enter Tryd.func46, Tryd.ntmps46
    go_wp2_with fail
    go_quiet (fail)
    go_wp2_with (fail)
    go_quiet (fail)
    go_wp2_with (first | (go_at_call 65; refine (trim_calls _ _).mono ?_; rintro e w' ⟨⟨r, rfl, hr⟩, rfl⟩; have HR := Lib.hid hr; have hrz : Hid (r.size ≤ 2000) := Nat.le_trans hr.1 hle2.out; clear hr) | (go_at_call 48; refine (run_hex _ _ hrz.out).mono ?_; rintro e w' ⟨⟨b, rfl, hb⟩, rfl⟩; have HB := Lib.hid hb; clear hb))
    go_ret
    exact ⟨⟨_, rfl, fun h => EX.out _ (grp_trim HR.out (HB.out h)) rfl⟩, ⟨rfl, rfl, rfl, Nat.le_refl _, fun _ _ => rfl⟩⟩
  have t120 : ((s[1].toNat : Int) == 120) = false := by simp; omega
  clear h120
  by_cases h88 : s[1].toNat = 88
  · have t88 : ((s[1].toNat : Int) == 88) = true := by simp [h88]
    have EX : Hid (∀ g, Grp (dOf 16) g → g = toN (s.extract 2 s.size) → IntL (toN s)) := by
      intro g hg e
      rw [E2.out, E0.out, h88, ← e]; exact .pre 16 88 g hg (.inl ⟨rfl, .inr rfl⟩)
    clear h88
    go_enter Tryd.func46, Tryd.ntmps46
    go_wp2_with fail
    go_quiet (fail)
    go_wp2_with (fail)
    go_quiet (fail)
    go_wp2_with (first | (go_at_call 65; refine (trim_calls _ _).mono ?_; rintro e w' ⟨⟨r, rfl, hr⟩, rfl⟩; have HR := Lib.hid hr; have hrz : Hid (r.size ≤ 2000) := Nat.le_trans hr.1 hle2.out; clear hr) | (go_at_call 48; refine (run_hex _ _ hrz.out).mono ?_; rintro e w' ⟨⟨b, rfl, hb⟩, rfl⟩; have HB := Lib.hid hb; clear hb))
    go_ret
    exact ⟨⟨_, rfl, fun h => EX.out _ (grp_trim HR.out (HB.out h)) rfl⟩, ⟨rfl, rfl, rfl, Nat.le_refl _, fun _ _ => rfl⟩⟩
  have t88 : ((s[1].toNat : Int) == 88) = false := by simp; omega
  clear h88
  by_cases h98 : s[1].toNat = 98
  · have t98 : ((s[1].toNat : Int) == 98) = true := by simp [h98]
    have EX : Hid (∀ g, Grp (dOf 2) g → g = toN (s.extract 2 s.size) → IntL (toN s)) := by
      intro g hg e
      rw [E2.out, E0.out, h98, ← e]; exact .pre 2 98 g hg (.inr (.inr ⟨rfl, .inl rfl⟩))
    clear h98
    go_enter Tryd.func46, Tryd.ntmps46
    go_wp2_with fail
    go_quiet (fail)
    go_wp2_with (fail)
    go_quiet (fail)
    go_wp2_with (first | (go_at_call 65; refine (trim_calls _ _).mono ?_; rintro e w' ⟨⟨r, rfl, hr⟩, rfl⟩; have HR := Lib.hid hr; have hrz : Hid (r.size ≤ 2000) := Nat.le_trans hr.1 hle2.out; clear hr) | (go_at_call 48; refine (run_bin _ _ hrz.out).mono ?_; rintro e w' ⟨⟨b, rfl, hb⟩, rfl⟩; have HB := Lib.hid hb; clear hb))
    go_ret
    exact ⟨⟨_, rfl, fun h => EX.out _ (grp_trim HR.out (HB.out h)) rfl⟩, ⟨rfl, rfl, rfl, Nat.le_refl _, fun _ _ => rfl⟩⟩
  have t98 : ((s[1].toNat : Int) == 98) = false := by simp; omega
  clear h98
  by_cases h66 : s[1].toNat = 66
  · have t66 : ((s[1].toNat : Int) == 66) = true := by simp [h66]
    have EX : Hid (∀ g, Grp (dOf 2) g → g = toN (s.extract 2 s.size) → IntL (toN s)) := by
      intro g hg e
      rw [E2.out, E0.out, h66, ← e]; exact .pre 2 66 g hg (.inr (.inr ⟨rfl, .inr rfl⟩))
    clear h66
    go_enter Tryd.func46, Tryd.ntmps46
    go_wp2_with fail
    go_quiet (fail)
    go_wp2_with (fail)
    go_quiet (fail)
    go_wp2_with (first | (go_at_call 65; refine (trim_calls _ _).mono ?_; rintro e w' ⟨⟨r, rfl, hr⟩, rfl⟩; have HR := Lib.hid hr; have hrz : Hid (r.size ≤ 2000) := Nat.le_trans hr.1 hle2.out; clear hr) | (go_at_call 48; refine (run_bin _ _ hrz.out).mono ?_; rintro e w' ⟨⟨b, rfl, hb⟩, rfl⟩; have HB := Lib.hid hb; clear hb))
    go_ret
    exact ⟨⟨_, rfl, fun h => EX.out _ (grp_trim HR.out (HB.out h)) rfl⟩, ⟨rfl, rfl, rfl, Nat.le_refl _, fun _ _ => rfl⟩⟩
  have t66 : ((s[1].toNat : Int) == 66) = false := by simp; omega
  clear h66
  by_cases h111 : s[1].toNat = 111
  · have t111 : ((s[1].toNat : Int) == 111) = true := by simp [h111]
    have EX : Hid (∀ g, Grp (dOf 8) g → g = toN (s.extract 2 s.size) → IntL (toN s)) := by
      intro g hg e
      rw [E2.out, E0.out, h111, ← e]; exact .pre 8 111 g hg (.inr (.inl ⟨rfl, .inl rfl⟩))
    clear h111
    go_enter Tryd.func46, Tryd.ntmps46
    go_wp2_with fail
    go_quiet (fail)
    go_wp2_with (fail)
    go_wp2_with (first | (go_at_call 65; refine (trim_calls _ _).mono ?_; rintro e w' ⟨⟨r, rfl, hr⟩, rfl⟩; have HR := Lib.hid hr; have hrz : Hid (r.size ≤ 2000) := Nat.le_trans hr.1 hle2.out; clear hr) | (go_at_call 48; refine (run_oct _ _ hrz.out).mono ?_; rintro e w' ⟨⟨b, rfl, hb⟩, rfl⟩; have HB := Lib.hid hb; clear hb))
    go_ret
    exact ⟨⟨_, rfl, fun h => EX.out _ (grp_trim HR.out (HB.out h)) rfl⟩, ⟨rfl, rfl, rfl, Nat.le_refl _, fun _ _ => rfl⟩⟩
  have t111 : ((s[1].toNat : Int) == 111) = false := by simp; omega
  clear h111
  by_cases h79 : s[1].toNat = 79
  · have t79 : ((s[1].toNat : Int) == 79) = true := by simp [h79]
    have EX : Hid (∀ g, Grp (dOf 8) g → g = toN (s.extract 2 s.size) → IntL (toN s)) := by
      intro g hg e
      rw [E2.out, E0.out, h79, ← e]; exact .pre 8 79 g hg (.inr (.inl ⟨rfl, .inr rfl⟩))
    clear h79
    go_enter Tryd.func46, Tryd.ntmps46
    go_wp2_with fail
    go_quiet (fail)
    go_wp2_with (fail)
    go_wp2_with (first | (go_at_call 65; refine (trim_calls _ _).mono ?_; rintro e w' ⟨⟨r, rfl, hr⟩, rfl⟩; have HR := Lib.hid hr; have hrz : Hid (r.size ≤ 2000) := Nat.le_trans hr.1 hle2.out; clear hr) | (go_at_call 48; refine (run_oct _ _ hrz.out).mono ?_; rintro e w' ⟨⟨b, rfl, hb⟩, rfl⟩; have HB := Lib.hid hb; clear hb))
    go_ret
    exact ⟨⟨_, rfl, fun h => EX.out _ (grp_trim HR.out (HB.out h)) rfl⟩, ⟨rfl, rfl, rfl, Nat.le_refl _, fun _ _ => rfl⟩⟩
  have t79 : ((s[1].toNat : Int) == 79) = false := by simp; omega
  clear h79
  have EX : Hid (∀ g, Grp (dOf 8) g → g = toN (s.extract 1 s.size) → IntL (toN s)) := by
    intro g hg e
    rw [E1.out, E0.out, ← e]; exact .oct g hg
  go_enter Tryd.func46, Tryd.ntmps46
  go_wp2_with fail
  go_quiet (fail)
  go_wp2_with (fail)
  go_wp2_with (first | (go_at_call 65; refine (trim_calls _ _).mono ?_; rintro e w' ⟨⟨r, rfl, hr⟩, rfl⟩; have HR := Lib.hid hr; have hrz : Hid (r.size ≤ 2000) := Nat.le_trans hr.1 hle1.out; clear hr) | (go_at_call 48; refine (run_oct _ _ hrz.out).mono ?_; rintro e w' ⟨⟨b, rfl, hb⟩, rfl⟩; have HB := Lib.hid hb; clear hb))
  go_ret
  exact ⟨⟨_, rfl, fun h => EX.out _ (grp_trim HR.out (HB.out h)) rfl⟩, ⟨rfl, rfl, rfl, Nat.le_refl _, fun _ _ => rfl⟩⟩
end Go.Proofs.YtnehkpoggkfikaaDoor

namespace Go.Proofs.YtnehkpoggkfikaaDoor
open Go.RowKit
set_option linter.unusedVariables false

theorem has_calls (s p : ByteArray) (b : Bool) (h : Lib.hasPrefix s.data.toList p.data.toList = b) (w : World) : Calls Tryd.prog 66 #[.string s, .string p] w fun e w' => e = .returned (.bool b) ∧ w = w' := by
  refine (Tryd.strings_HasPrefix s p w).mono ?_
  rintro e w' ⟨rfl, rfl⟩
  rw [h]; exact ⟨rfl, rfl⟩
/-- A text that begins with two bytes. -/
theorem has_two {s : ByteArray} {a b : UInt8} (h : Lib.hasPrefix s.data.toList [a, b] = true) : 2 ≤ s.size ∧ toN s = a.toNat :: b.toNat :: toN (s.extract 2 s.size) := by
  unfold Lib.hasPrefix at h
  rw [List.isPrefixOf_iff_prefix] at h
  obtain ⟨r, hr⟩ := h
  have hz : s.data.toList.length = s.size := rfl
  rw [← hr] at hz
  simp only [List.cons_append, List.nil_append, List.length_cons] at hz
  have h2 : 2 ≤ s.size := by omega
  refine ⟨h2, ?_⟩
  rw [toN_tail s 2 h2]
  unfold toN
  rw [← hr]; rfl
theorem inSet1 {c : Nat} {a : UInt8} (h : InSet ⟨#[a]⟩ c) : c = a.toNat := by
  obtain ⟨u, hu, rfl⟩ := h
  have : u = a := by simpa using hu
  rw [this]
theorem inSet2 {c : Nat} {a b : UInt8} (h : InSet ⟨#[a, b]⟩ c) : c = a.toNat ∨ c = b.toNat := by
  obtain ⟨u, hu, rfl⟩ := h
  have : u = a ∨ u = b := by simpa using hu
  rcases this with h | h <;> rw [h] <;> simp
theorem toN_ne {s : ByteArray} (h : s.size ≠ 0) : toN s ≠ [] := fun e => by have := toN_len s; rw [e] at this; simp at this; omega
theorem toN_nil {s : ByteArray} (h : s.size = 0) : toN s = [] := List.eq_nil_of_length_eq_zero (by rw [toN_len]; exact h)
/-- The fraction of parts at a point. -/
theorem part_point {m wh rs : ByteArray} {pt : Bool} (h : Parts m ⟨#[46]⟩ wh rs pt) : ∃ f : Option (List Nat), toN m = toN wh ++ ptL f ∧ (f.isSome = pt) ∧ (pt = true → f = some (toN rs)) ∧ (pt = false → rs.size = 0) := by
  rcases h.2.2 with ⟨rfl, c, hc, e⟩ | ⟨rfl, e, e2⟩
  · have hc := inSet1 hc
    subst hc
    exact ⟨some (toN rs), e, rfl, fun _ => rfl, fun h => by cases h⟩
  · exact ⟨none, by rw [e]; simp [ptL], rfl, (fun h => by cases h), fun _ => by rw [e2]; rfl⟩
theorem fr_is {m : Nat} {rs : ByteArray} {f : Option (List Nat)} {pt : Bool} (h1 : f.isSome = pt) (h2 : pt = true → f = some (toN rs)) (hf : rs.size = 0 ∨ Run m (toN rs)) : FrIs m f := by
  cases pt with
  | true => rw [h2 rfl]; exact hf.imp toN_nil id
  | false =>
    cases f with
    | none => trivial
    | some f => cases h1
theorem fr_some {rs wh : ByteArray} {f : Option (List Nat)} {pt : Bool} (h2 : pt = true → f = some (toN rs)) (h3 : pt = false → rs.size = 0) (h : wh.size ≠ 0 ∨ rs.size ≠ 0) : toN wh ≠ [] ∨ ∃ a, f = some a ∧ a ≠ [] := by
  rcases h with h | h
  · exact .inl (toN_ne h)
  · cases pt with
    | true => exact .inr ⟨_, h2 rfl, toN_ne h⟩
    | false => exact absurd (h3 rfl) h
theorem float_hex {s m0 m ex wh rs : ByteArray} {pt : Bool} {y : Nat} (hy : y = 120 ∨ y = 88) (e : toN s = 48 :: y :: toN m0) (p1 : Parts m0 ⟨#[112, 80]⟩ m ex true) (p2 : Parts m ⟨#[46]⟩ wh rs pt) (hx : ExpIs ex) (hw : wh.size = 0 ∨ Grp (dOf 16) (toN wh)) (hf : rs.size = 0 ∨ Run 16 (toN rs)) (h2 : wh.size ≠ 0 ∨ rs.size ≠ 0) : FloatL (toN s) := by
  obtain ⟨sg, ds, x1, x2, x3⟩ := hx
  obtain ⟨f, f1, f2, f3, f4⟩ := part_point p2
  rcases p1.2.2 with ⟨-, c, hc, e1⟩ | ⟨h, -, -⟩
  · have hc := inSet2 hc
    have : toN s = 48 :: y :: (toN wh ++ (ptL f ++ exL (some (c, sg, ds)))) := by rw [e, e1, f1, x1]; simp [exL]
    rw [this]
    exact .hex y _ f (c, sg, ds) hy (hw.imp toN_nil id) (fr_is f2 f3 hf) ⟨.inl ⟨rfl, hc⟩, x2, x3⟩ (fr_some f3 f4 h2)
  · cases h
theorem float_dec {s m ex wh rs : ByteArray} {ok pt : Bool} (p1 : Parts s ⟨#[101, 69]⟩ m ex ok) (p2 : Parts m ⟨#[46]⟩ wh rs pt) (hx : ok = true → ExpIs ex) (hop : ok = true ∨ pt = true) (hw : wh.size = 0 ∨ Run 10 (toN wh)) (hf : rs.size = 0 ∨ Run 10 (toN rs)) (h2 : wh.size ≠ 0 ∨ rs.size ≠ 0) : FloatL (toN s) := by
  obtain ⟨f, f1, f2, f3, f4⟩ := part_point p2
  rcases p1.2.2 with ⟨h, c, hc, e1⟩ | ⟨h, e1, -⟩
  · obtain ⟨sg, ds, x1, x2, x3⟩ := hx h
    have hc := inSet2 hc
    have : toN s = toN wh ++ (ptL f ++ exL (some (c, sg, ds))) := by rw [e1, f1, x1]; simp [exL]
    rw [this]
    exact .dec _ f (some (c, sg, ds)) (hw.imp toN_nil id) (fr_is f2 f3 hf) ⟨.inr ⟨rfl, hc⟩, x2, x3⟩ (.inr rfl) (fr_some f3 f4 h2)
  · have : toN s = toN wh ++ (ptL f ++ exL none) := by rw [← e1, f1]; simp [exL]
    rw [this]
    have hpt : pt = true := hop.resolve_left (by rw [h]; decide)
    exact .dec _ f none (hw.imp toN_nil id) (fr_is f2 f3 hf) trivial (.inl (by rw [f2, hpt])) (fr_some f3 f4 h2)
/-- What isFloat tells. -/
def FloatQ (s : ByteArray) (w : World) (e : Ending) (w' : World) : Prop := (∃ b, e = .returned (.bool b) ∧ (b = true → FloatL (toN s))) ∧ Below w.heap.size w w'
theorem floatQ_no (s : ByteArray) {w w' : World} (h : Below w.heap.size w w') : FloatQ s w (.returned (.bool false)) w' := ⟨⟨false, rfl, fun h => by cases h⟩, h⟩

set_option maxRecDepth 100000 in
set_option maxHeartbeats 4000000 in
theorem isFloat_hex (s : ByteArray) (y : Nat) (w : World) (hs : s.size ≤ 2000) (hy : y = 120 ∨ y = 88) (h2 : 2 ≤ s.size) (he : toN s = 48 :: y :: toN (s.extract 2 s.size)) (p1 p2 : Bool) (hp1 : Lib.hasPrefix s.data.toList [48, 120] = p1) (hp2 : Lib.hasPrefix s.data.toList [48, 88] = p2) (hpp : p1 = true ∨ (p1 = false ∧ p2 = true)) :
    Calls Tryd.prog 47 #[.string s] w (FloatQ s w) := by
  have hs' : (s.size : Int) ≤ 2000 := by omega
  have h2i : (2 : Int) ≤ (s.size : Int) := by omega
  have HP1 := Lib.hid hp1
  have HP2 := Lib.hid hp2
  have HE := Lib.hid he
  have HY := Lib.hid hy
  have hle2 : Hid ((s.extract 2 s.size).size ≤ 2000) := by show _ ≤ _; rw [ByteArray.size_extract]; omega
  clear hp1 hp2 he hy h2
  rcases hpp with rfl | ⟨rfl, rfl⟩
  all_goals
    go_enter Tryd.func47, Tryd.ntmps47
    go_wp2_with (first | (go_at_call 66; refine (has_calls s ⟨#[48, 120]⟩ _ HP1.out _).mono ?_; rintro e w' ⟨rfl, rfl⟩) | (go_at_call 66; refine (has_calls s ⟨#[48, 88]⟩ _ HP2.out _).mono ?_; rintro e w' ⟨rfl, rfl⟩))
    go_at_call 67
    refine (cut_calls _ _ _ hle2.out).mono ?_
    rintro e w1 ⟨m, ex, ok1, rfl, hc1, hB1⟩
    have HC1 := Lib.hid hc1
    have HB1 := Lib.hid hB1
    have hmz : Hid (m.size ≤ 2000) := Nat.le_trans hc1.1 hle2.out
    have hxz : Hid (ex.size ≤ 2000) := Nat.le_trans hc1.2.1 hle2.out
    clear hc1 hB1
    go_wp2_with fail
    go_at_call 67
    refine (cut_calls m ⟨#[46]⟩ _ hmz.out).mono ?_
    rintro e w2 ⟨wh, rs, pt, rfl, hc2, hB2⟩
    have HC2 := Lib.hid hc2
    have HB2 : Hid (Below w.heap.size w w2) := HB1.out.trans (hB2.mono HB1.out.size)
    have hwz : Hid (wh.size ≤ 2000) := Nat.le_trans hc2.1 hmz.out
    have hrz : Hid (rs.size ≤ 2000) := Nat.le_trans hc2.2.1 hmz.out
    clear hc2 hB2
    cases ok1
    · go_wp2_with fail
      go_ret
      exact floatQ_no s HB2.out
    · go_wp2_with fail
      go_at_call 68
      refine (exponentOk_calls ex _ hxz.out).mono ?_
      rintro e w3 ⟨⟨b2, rfl, hb2⟩, rfl⟩
      have HX := Lib.hid hb2
      clear hb2
      cases b2
      · go_wp2_with fail
        go_ret
        exact floatQ_no s HB2.out
      · by_cases hw0 : wh.size = 0
        · have ew := size_zero hw0
          subst ew
          by_cases hr0 : rs.size = 0
          · have er := size_zero hr0
            subst er
            go_wp2_with fail
            go_ret
            exact floatQ_no s HB2.out
          · obtain ⟨rne, rne2⟩ := toList_ne hr0
            go_wp2_with (go_at_call 65; refine (trim_calls _ _).mono ?_; rintro e w' ⟨⟨r, rfl, hr⟩, rfl⟩; have HR := Lib.hid hr; have hrz1 : Hid (r.size ≤ 2000) := Nat.le_trans hr.1 hwz.out; clear hr)
            go_at_call 48
            refine (run_hex _ _ hrz1.out).mono ?_
            rintro e w' ⟨⟨b3, rfl, hb3⟩, rfl⟩
            clear hb3
            cases b3 <;> cases pt
            · go_wp2_with fail
              go_ret
              exact floatQ_no s HB2.out
            all_goals
              go_wp2_with (go_at_call 48; refine (run_hex _ _ hrz.out).mono ?_; rintro e w' ⟨⟨b4, rfl, hb4⟩, rfl⟩; have HB4 := Lib.hid hb4; clear hb4)
              go_ret
              exact ⟨⟨_, rfl, fun h => float_hex HY.out HE.out HC1.out HC2.out (HX.out trivial) (.inl rfl) (.inr (HB4.out h)) (.inr hr0)⟩, HB2.out⟩
        · obtain ⟨wne, wne2⟩ := toList_ne hw0
          go_wp2_with (go_at_call 65; refine (trim_calls _ _).mono ?_; rintro e w' ⟨⟨r, rfl, hr⟩, rfl⟩; have HR := Lib.hid hr; have hrz1 : Hid (r.size ≤ 2000) := Nat.le_trans hr.1 hwz.out; clear hr)
          go_at_call 48
          refine (run_hex _ _ hrz1.out).mono ?_
          rintro e w' ⟨⟨b3, rfl, hb3⟩, rfl⟩
          have HB3 := Lib.hid hb3
          clear hb3
          cases b3
          · go_wp2_with fail
            go_ret
            exact floatQ_no s HB2.out
          · by_cases hr0 : rs.size = 0
            · have er := size_zero hr0
              subst er
              go_wp2_with fail
              go_ret
              exact ⟨⟨_, rfl, fun h => float_hex HY.out HE.out HC1.out HC2.out (HX.out trivial) (.inr (grp_trim HR.out (HB3.out trivial))) (.inl rfl) (.inl hw0)⟩, HB2.out⟩
            · obtain ⟨rne, rne2⟩ := toList_ne hr0
              go_wp2_with (go_at_call 48; refine (run_hex _ _ hrz.out).mono ?_; rintro e w' ⟨⟨b4, rfl, hb4⟩, rfl⟩; have HB4 := Lib.hid hb4; clear hb4)
              go_ret
              exact ⟨⟨_, rfl, fun h => float_hex HY.out HE.out HC1.out HC2.out (HX.out trivial) (.inr (grp_trim HR.out (HB3.out trivial))) (.inr (HB4.out h)) (.inl hw0)⟩, HB2.out⟩

set_option maxRecDepth 100000 in
set_option maxHeartbeats 4000000 in
theorem isFloat_dec (s : ByteArray) (w : World) (hs : s.size ≤ 2000) (hp1 : Lib.hasPrefix s.data.toList [48, 120] = false) (hp2 : Lib.hasPrefix s.data.toList [48, 88] = false) :
    Calls Tryd.prog 47 #[.string s] w (FloatQ s w) := by
  have hs' : (s.size : Int) ≤ 2000 := by omega
  have HP1 := Lib.hid hp1
  have HP2 := Lib.hid hp2
  clear hp1 hp2
  go_enter Tryd.func47, Tryd.ntmps47
  go_wp2_with (first | (go_at_call 66; refine (has_calls s ⟨#[48, 120]⟩ _ HP1.out _).mono ?_; rintro e w' ⟨rfl, rfl⟩) | (go_at_call 66; refine (has_calls s ⟨#[48, 88]⟩ _ HP2.out _).mono ?_; rintro e w' ⟨rfl, rfl⟩))
  go_at_call 67
  refine (cut_calls s ⟨#[101, 69]⟩ _ hs).mono ?_
  rintro e w1 ⟨m, ex, ok1, rfl, hc1, hB1⟩
  have HC1 := Lib.hid hc1
  have HB1 := Lib.hid hB1
  have hmz : Hid (m.size ≤ 2000) := Nat.le_trans hc1.1 hs
  have hxz : Hid (ex.size ≤ 2000) := Nat.le_trans hc1.2.1 hs
  clear hc1 hB1
  go_wp2_with fail
  go_at_call 67
  refine (cut_calls m ⟨#[46]⟩ _ hmz.out).mono ?_
  rintro e w2 ⟨wh, rs, pt, rfl, hc2, hB2⟩
  have HC2 := Lib.hid hc2
  have HB2 : Hid (Below w.heap.size w w2) := HB1.out.trans (hB2.mono HB1.out.size)
  have hwz : Hid (wh.size ≤ 2000) := Nat.le_trans hc2.1 hmz.out
  have hrz : Hid (rs.size ≤ 2000) := Nat.le_trans hc2.2.1 hmz.out
  clear hc2 hB2
  have fin : ∀ (xo : ok1 = true → ExpIs ex) (hop : ok1 = true ∨ pt = true) (hw : wh.size = 0 ∨ Run 10 (toN wh)) (hf : rs.size = 0 ∨ Run 10 (toN rs)) (h2 : wh.size ≠ 0 ∨ rs.size ≠ 0), FloatL (toN s) := fun xo hop hw hf h2 => float_dec HC1.out HC2.out xo hop hw hf h2
  have FIN := Lib.hid fin
  clear fin
  cases ok1
  · cases pt
    · go_wp2_with fail
      go_ret
      exact floatQ_no s HB2.out
    · have FQ := Lib.hid (FIN.out (fun h => by cases h) (.inr rfl))
      clear FIN
      by_cases hw0 : wh.size = 0
      · have ew := size_zero hw0
        subst ew
        by_cases hr0 : rs.size = 0
        · have er := size_zero hr0
          subst er
          go_wp2_with fail
          go_ret
          exact floatQ_no s HB2.out
        · obtain ⟨rne, rne2⟩ := toList_ne hr0
          go_wp2_with (go_at_call 48; refine (run_dec _ _ hrz.out).mono ?_; rintro e w' ⟨⟨b4, rfl, hb4⟩, rfl⟩; have HB4 := Lib.hid hb4; clear hb4)
          go_ret
          exact ⟨⟨_, rfl, fun h => FQ.out (.inl rfl) (.inr (HB4.out h)) (.inr hr0)⟩, HB2.out⟩
      · obtain ⟨wne, wne2⟩ := toList_ne hw0
        by_cases hr0 : rs.size = 0
        · have er := size_zero hr0
          subst er
          go_wp2_with (go_at_call 48; refine (run_dec _ _ hwz.out).mono ?_; rintro e w' ⟨⟨b3, rfl, hb3⟩, rfl⟩; have HB3 := Lib.hid hb3; clear hb3)
          all_goals
            go_ret
            first
              | exact floatQ_no s HB2.out
              | exact ⟨⟨_, rfl, fun h => FQ.out (.inr (HB3.out (by assumption))) (.inl rfl) (.inl hw0)⟩, HB2.out⟩
              | exact ⟨⟨_, rfl, fun h => FQ.out (.inr (HB3.out h)) (.inl rfl) (.inl hw0)⟩, HB2.out⟩
              | exact ⟨⟨_, rfl, fun h => FQ.out (.inr (HB3.out (by trivial))) (.inl rfl) (.inl hw0)⟩, HB2.out⟩
        · obtain ⟨rne, rne2⟩ := toList_ne hr0
          go_wp2_with fail
          go_at_call 48
          refine (run_dec _ _ hwz.out).mono ?_
          rintro e w' ⟨⟨b3, rfl, hb3⟩, rfl⟩
          have HB3 := Lib.hid hb3
          clear hb3
          cases b3
          · go_wp2_with fail
            go_ret
            exact floatQ_no s HB2.out
          · go_wp2_with (go_at_call 48; refine (run_dec _ _ hrz.out).mono ?_; rintro e w' ⟨⟨b4, rfl, hb4⟩, rfl⟩; have HB4 := Lib.hid hb4; clear hb4)
            go_ret
            exact ⟨⟨_, rfl, fun h => FQ.out (.inr (HB3.out (by trivial))) (.inr (HB4.out h)) (.inl hw0)⟩, HB2.out⟩
  · go_wp2_with fail
    go_at_call 68
    refine (exponentOk_calls ex _ hxz.out).mono ?_
    rintro e w3 ⟨⟨b2, rfl, hb2⟩, rfl⟩
    have HX := Lib.hid hb2
    clear hb2
    cases b2
    · go_wp2_with fail
      go_ret
      exact floatQ_no s HB2.out
    · have FQ := Lib.hid (FIN.out (fun _ => HX.out (by trivial)) (.inl (by trivial)))
      clear FIN
      by_cases hw0 : wh.size = 0
      · have ew := size_zero hw0
        subst ew
        by_cases hr0 : rs.size = 0
        · have er := size_zero hr0
          subst er
          go_wp2_with fail
          go_ret
          exact floatQ_no s HB2.out
        · obtain ⟨rne, rne2⟩ := toList_ne hr0
          go_wp2_with (go_at_call 48; refine (run_dec _ _ hrz.out).mono ?_; rintro e w' ⟨⟨b4, rfl, hb4⟩, rfl⟩; have HB4 := Lib.hid hb4; clear hb4)
          go_ret
          exact ⟨⟨_, rfl, fun h => FQ.out (.inl rfl) (.inr (HB4.out h)) (.inr hr0)⟩, HB2.out⟩
      · obtain ⟨wne, wne2⟩ := toList_ne hw0
        by_cases hr0 : rs.size = 0
        · have er := size_zero hr0
          subst er
          go_wp2_with (go_at_call 48; refine (run_dec _ _ hwz.out).mono ?_; rintro e w' ⟨⟨b3, rfl, hb3⟩, rfl⟩; have HB3 := Lib.hid hb3; clear hb3)
          all_goals
            go_ret
            first
              | exact floatQ_no s HB2.out
              | exact ⟨⟨_, rfl, fun h => FQ.out (.inr (HB3.out (by assumption))) (.inl rfl) (.inl hw0)⟩, HB2.out⟩
              | exact ⟨⟨_, rfl, fun h => FQ.out (.inr (HB3.out h)) (.inl rfl) (.inl hw0)⟩, HB2.out⟩
              | exact ⟨⟨_, rfl, fun h => FQ.out (.inr (HB3.out (by trivial))) (.inl rfl) (.inl hw0)⟩, HB2.out⟩
        · obtain ⟨rne, rne2⟩ := toList_ne hr0
          go_wp2_with fail
          go_at_call 48
          refine (run_dec _ _ hwz.out).mono ?_
          rintro e w' ⟨⟨b3, rfl, hb3⟩, rfl⟩
          have HB3 := Lib.hid hb3
          clear hb3
          cases b3
          · go_wp2_with fail
            go_ret
            exact floatQ_no s HB2.out
          · go_wp2_with (go_at_call 48; refine (run_dec _ _ hrz.out).mono ?_; rintro e w' ⟨⟨b4, rfl, hb4⟩, rfl⟩; have HB4 := Lib.hid hb4; clear hb4)
            go_ret
            exact ⟨⟨_, rfl, fun h => FQ.out (.inr (HB3.out (by trivial))) (.inr (HB4.out h)) (.inl hw0)⟩, HB2.out⟩
theorem isFloat_calls (s : ByteArray) (w : World) (hs : s.size ≤ 2000) : Calls Tryd.prog 47 #[.string s] w (FloatQ s w) := by
  cases hp1 : Lib.hasPrefix s.data.toList [48, 120] with
  | true =>
    obtain ⟨h2, he⟩ := has_two hp1
    exact isFloat_hex s 120 w hs (.inl rfl) h2 he true _ hp1 rfl (.inl rfl)
  | false =>
    cases hp2 : Lib.hasPrefix s.data.toList [48, 88] with
    | true =>
      obtain ⟨h2, he⟩ := has_two hp2
      exact isFloat_hex s 88 w hs (.inr rfl) h2 he false true hp1 hp2 (.inr ⟨rfl, rfl⟩)
    | false => exact isFloat_dec s w hs hp1 hp2

/-- What KindOf tells: none, or a literal of that kind. -/
def KindQ (s : ByteArray) (w : World) (e : Ending) (w' : World) : Prop := (∃ z : Int, e = .returned (.int .i64 z) ∧ (z = -1 ∨ ∃ k : Nat, z = k ∧ KindL k (toN s))) ∧ Below w.heap.size w w'
theorem kindQ_no (s : ByteArray) {w w' : World} (h : Below w.heap.size w w') : KindQ s w (.returned (.int .i64 (-1))) w' := ⟨⟨-1, rfl, .inl rfl⟩, h⟩
theorem kindQ_yes {s : ByteArray} {w w' : World} (k : Nat) (h : KindL k (toN s)) (hb : Below w.heap.size w w') : KindQ s w (.returned (.int .i64 (k : Int))) w' := ⟨⟨k, rfl, .inr ⟨k, rfl, h⟩⟩, hb⟩
theorem toN_last {s : ByteArray} (h : 0 < s.size) (hi : s[s.size - 1].toNat = 105) : toN s = toN (s.extract 0 (s.size - 1)) ++ [105] := by
  rw [toN_head s (s.size - 1) (by omega)]
  have hl : s.size - 1 < (toN s).length := by rw [toN_len]; omega
  conv => lhs; rw [← List.take_append_drop (s.size - 1) (toN s), List.drop_eq_getElem_cons hl, toN_get s (s.size - 1) (by omega), hi]
  rw [List.drop_of_length_le (by rw [toN_len]; omega)]
set_option maxRecDepth 100000 in
set_option maxHeartbeats 4000000 in
theorem kindOf_calls (s : ByteArray) (w : World) (hs : s.size ≤ 2000) : Calls Tryd.prog 30 #[.string s] w (KindQ s w) := by
  have hs' : (s.size : Int) ≤ 2000 := by omega
  by_cases h0 : s.size = 0
  · have e0 := size_zero h0
    subst e0
    go_enter Tryd.func30, Tryd.ntmps30
    go_wp2_with fail
    go_ret
    exact kindQ_no _ (Below.refl _ _)
  obtain ⟨hne, hne2⟩ := toList_ne h0
  have h1 : 0 < s.size := by omega
  have h1' : (1 : Int) ≤ (s.size : Int) := by omega
  have hl1 : s.size - 1 < s.size := by omega
  go_enter Tryd.func30, Tryd.ntmps30
  go_wp2_with fail
  go_at_call 46
  refine (isInt_calls s _ hs).mono ?_
  rintro e w1 ⟨⟨b1, rfl, hb1⟩, hB1⟩
  have HI := Lib.hid hb1
  have HB1 := Lib.hid hB1
  clear hb1 hB1
  cases b1
  case true =>
    go_wp2_with fail
    go_ret
    exact kindQ_yes 0 (.inl ⟨rfl, HI.out (by trivial)⟩) HB1.out
  go_wp2_with fail
  go_at_call 47
  refine (isFloat_calls s _ hs).mono ?_
  rintro e w2 ⟨⟨b2, rfl, hb2⟩, hB2⟩
  have HF := Lib.hid hb2
  have HB2 : Hid (Below w.heap.size w w2) := HB1.out.trans (hB2.mono HB1.out.size)
  clear hb2 hB2
  cases b2
  case true =>
    go_wp2_with fail
    go_ret
    exact kindQ_yes 1 (.inr (.inl ⟨rfl, HF.out (by trivial)⟩)) HB2.out
  by_cases hi : s[s.size - 1].toNat = 105
  case neg =>
    have ti : ((s[s.size - 1].toNat : Int) == 105) = false := by simp; omega
    clear hi
    go_wp2_with fail
    go_ret
    exact kindQ_no _ HB2.out
  have ti : ((s[s.size - 1].toNat : Int) == 105) = true := by simp [hi]
  have HL := Lib.hid (toN_last h1 hi)
  obtain ⟨n, hn⟩ : ∃ n, s.extract 0 (s.size - 1) = n := ⟨_, rfl⟩
  have hnz : Hid (n.size ≤ 2000) := by show _ ≤ _; rw [← hn, ByteArray.size_extract]; omega
  have FIN : Hid (∀ a, a = toN n → (IntL a ∨ FloatL a ∨ Run 10 a) → KindL 2 (toN s)) := by
    rintro a rfl h
    rw [← hn] at h
    rw [HL.out]
    exact .inr (.inr ⟨rfl, _, rfl, h⟩)
  clear hi
  by_cases hn0 : n.size = 0
  · have en := size_zero hn0
    subst en
    go_wp2_with fail
    go_ret
    exact kindQ_no _ HB2.out
  obtain ⟨nne, nne2⟩ := toList_ne hn0
  go_wp2_with fail
  go_at_call 46
  refine (isInt_calls n _ hnz.out).mono ?_
  rintro e w3 ⟨⟨b3, rfl, hb3⟩, hB3⟩
  have HI3 := Lib.hid hb3
  have HB3 : Hid (Below w.heap.size w w3) := HB2.out.trans (hB3.mono HB2.out.size)
  clear hb3 hB3
  cases b3
  case true =>
    go_wp2_with fail
    go_ret
    exact kindQ_yes 2 (FIN.out _ rfl (.inl (HI3.out (by trivial)))) HB3.out
  go_wp2_with fail
  go_at_call 47
  refine (isFloat_calls n _ hnz.out).mono ?_
  rintro e w4 ⟨⟨b4, rfl, hb4⟩, hB4⟩
  have HI4 := Lib.hid hb4
  have HB4 : Hid (Below w.heap.size w w4) := HB3.out.trans (hB4.mono HB3.out.size)
  clear hb4 hB4
  cases b4
  case true =>
    go_wp2_with fail
    go_ret
    exact kindQ_yes 2 (FIN.out _ rfl (.inr (.inl (HI4.out (by trivial))))) HB4.out
  go_wp2_with fail
  go_at_call 48
  refine (run_dec n _ hnz.out).mono ?_
  rintro e w5 ⟨⟨b5, rfl, hb5⟩, rfl⟩
  have HI5 := Lib.hid hb5
  clear hb5
  cases b5
  · go_wp2_with fail
    go_ret
    exact kindQ_no _ HB4.out
  · go_wp2_with fail
    go_ret
    exact kindQ_yes 2 (FIN.out _ rfl (.inr (.inr (HI5.out (by trivial))))) HB4.out
end Go.Proofs.YtnehkpoggkfikaaDoor
