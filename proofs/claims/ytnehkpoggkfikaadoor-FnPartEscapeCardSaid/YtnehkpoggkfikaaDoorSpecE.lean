/-
  The walk through the specification's own Escape: how many bytes an escape has. Conditions: each law's own. (Printed by genspece.py.)
-/
import Derived.Test.YtnehkpoggkfikaaDoorSpecA
namespace Go.Proofs.YtnehkpoggkfikaaDoor
open Go.RowKit
set_option linter.unusedVariables false

abbrev octSet : ByteArray := ⟨#[48, 49, 50, 51, 52, 53, 54, 55]⟩
abbrev hexSet : ByteArray := ⟨#[48, 49, 50, 51, 52, 53, 54, 55, 56, 57, 97, 98, 99, 100, 101, 102, 65, 66, 67, 68, 69, 70]⟩
abbrev simSet : ByteArray := ⟨#[97, 98, 102, 110, 114, 116, 118, 92]⟩
theorem oct_fin : ∀ n : Fin 256, octSet.data.toList.contains (UInt8.ofNat n.val) = decide (digB 8 n.val < 8) := by decide +kernel
theorem hex_fin : ∀ n : Fin 256, hexSet.data.toList.contains (UInt8.ofNat n.val) = decide (digB 16 n.val < 16) := by decide +kernel
theorem sim_fin : ∀ n : Fin 256, (0 ≤ Lib.indexByte simSet.data.toList (UInt8.ofNat n.val)) ↔ (n.val = 97 ∨ n.val = 98 ∨ n.val = 102 ∨ n.val = 110 ∨ n.val = 114 ∨ n.val = 116 ∨ n.val = 118 ∨ n.val = 92) := by decide +kernel
theorem dig8_fin : ∀ n : Fin 256, digB 8 n.val < 8 → digB 16 n.val = digB 8 n.val := by decide +kernel
theorem oct_at (c : UInt8) : octSet.data.toList.contains c = decide (digB 8 c.toNat < 8) := by have := oct_fin ⟨c.toNat, c.toNat_lt⟩; simpa only [u8_fin] using this
theorem hex_at (c : UInt8) : hexSet.data.toList.contains c = decide (digB 16 c.toNat < 16) := by have := hex_fin ⟨c.toNat, c.toNat_lt⟩; simpa only [u8_fin] using this
theorem sim_at (c : UInt8) : (0 ≤ Lib.indexByte simSet.data.toList c) ↔ (c.toNat = 97 ∨ c.toNat = 98 ∨ c.toNat = 102 ∨ c.toNat = 110 ∨ c.toNat = 114 ∨ c.toNat = 116 ∨ c.toNat = 118 ∨ c.toNat = 92) := by have := sim_fin ⟨c.toNat, c.toNat_lt⟩; simpa only [u8_fin] using this
theorem dig_same (base : Nat) (hb : base = 8 ∨ base = 16) (c : UInt8) (h : digB base c.toNat < base) : digB 16 c.toNat = digB base c.toNat := by
  rcases hb with rfl | rfl
  · exact dig8_fin ⟨c.toNat, c.toNat_lt⟩ h
  · rfl
theorem hexRun_all (base n x : Nat) (L : List UInt8) (hb : base = 8 ∨ base = 16) (hn : n ≤ L.length) (h : ∀ c ∈ L.take n, digB base c.toNat < base) : hexRun base n x L = some (valB base x (L.take n)) := by
  induction n generalizing x L with
  | zero => simp [hexRun, valB]
  | succ n ih =>
    cases L with
    | nil => simp at hn
    | cons c L =>
      have h1 := h c (by simp)
      unfold hexRun
      rw [if_pos h1, ih _ L (by simpa using hn) (fun y hy => h y (by simp [hy]))]
      simp only [List.take_succ_cons, valB]
      rw [dig_same base hb c h1]
theorem hexRun_none (base n x : Nat) (L : List UInt8) (h : ¬ ∀ c ∈ L.take n, digB base c.toNat < base) : hexRun base n x L = none := by
  induction n generalizing x L with
  | zero => simp at h
  | succ n ih =>
    cases L with
    | nil => simp at h
    | cons c L =>
      unfold hexRun
      by_cases h1 : digB base c.toNat < base
      · rw [if_pos h1]
        refine ih _ L fun h2 => h fun y hy => ?_
        simp only [List.take_succ_cons, List.mem_cons] at hy
        rcases hy with rfl | hy
        · exact h1
        · exact h2 y hy
      · rw [if_neg h1]
theorem hexRun_short (base n x : Nat) (L : List UInt8) (h : L.length < n) : hexRun base n x L = none := by
  induction n generalizing x L with
  | zero => omega
  | succ n ih =>
    cases L with
    | nil => simp [hexRun]
    | cons c L =>
      unfold hexRun
      split
      · exact ih _ L (by simpa using h)
      · rfl
theorem allB_dig (base : Nat) (set : List UInt8) (hset : ∀ c, set.contains c = decide (digB base c.toNat < base)) (l : List UInt8) (h0 : l ≠ []) : allB l set = decide (∀ c ∈ l, digB base c.toNat < base) := by
  unfold allB
  have e : l.isEmpty = false := by cases l with
    | nil => exact absurd rfl h0
    | cons a l => rfl
  rw [e, Bool.eq_iff_iff]
  simp only [Bool.not_false, Bool.true_and, List.all_eq_true, decide_eq_true_eq]
  exact ⟨fun h c hc => by have := h c hc; rw [hset] at this; exact of_decide_eq_true this, fun h c hc => by rw [hset]; exact decide_eq_true (h c hc)⟩
theorem valB_bound (base n : Nat) (l : List UInt8) (hb : base = 8 ∨ base = 16) (hl : l.length ≤ n) (h : ∀ c ∈ l, digB base c.toNat < base) : valB base 0 l < base ^ n := by
  have h1 := valB_lt base 0 l hb (fun c hc => by rw [dig_same base hb c (h c hc)]; exact h c hc)
  have h2 : base ^ l.length ≤ base ^ n := Nat.pow_le_pow_right (by omega) hl
  omega
/-- A text of at least two bytes. -/
structure TwoB (t : ByteArray) (x0 c : UInt8) (L : List UInt8) : Prop where
  list : t.data.toList = x0 :: c :: L
theorem TwoB.size {t : ByteArray} {x0 c : UInt8} {L : List UInt8} (h : TwoB t x0 c L) : t.size = L.length + 2 := by
  have : t.data.toList.length = t.size := rfl
  rw [h.list] at this
  simp at this; omega
theorem TwoB.at1 {t : ByteArray} {x0 c : UInt8} {L : List UInt8} (h : TwoB t x0 c L) (h2 : 1 < t.size) : t[1]'h2 = c := by
  rw [getElem_list t 1 h2]
  have : t.data.toList[1]? = some c := by rw [h.list]; rfl
  obtain ⟨_, h3⟩ := List.getElem?_eq_some_iff.1 this
  exact h3
theorem TwoB.cut {t : ByteArray} {x0 c : UInt8} {L : List UInt8} (h : TwoB t x0 c L) (a b : Nat) : (t.extract a b).data.toList = ((x0 :: c :: L).drop a).take (b - a) := by
  rw [ByteArray.data_extract, Array.toList_extract, h.list]

set_option maxRecDepth 100000 in
set_option maxHeartbeats 2000000 in
theorem spec_esc_list (t : ByteArray) (x0 c : UInt8) (L : List UInt8) (w : World) (hT : TwoB t x0 c L) (hL : L.length ≤ 100) (hc : c.toNat = 97 ∨ c.toNat = 98 ∨ c.toNat = 102 ∨ c.toNat = 110 ∨ c.toNat = 114 ∨ c.toNat = 116 ∨ c.toNat = 118 ∨ c.toNat = 92) :
    Calls Tryd.prog 26 #[.string t, .int .u8 34] w fun e w' => e = .returned (.int .i64 (escB 34 t.data.toList : Nat)) ∧ w = w' := by
  have hsz := hT.size
  have hs1 : 1 < t.size := by omega
  have hs2 : (2 : Int) ≤ (t.size : Int) := by omega
  have hs3 : (t.size : Int) ≤ 102 := by omega
  have h1 := hT.at1 hs1
  have HT := Lib.hid hT
  have hE : Hid (escB 34 t.data.toList = 2) := by
    show _ = _
    rw [hT.list, escB_cons]; unfold escBC; rw [if_pos (by unfold simpleEsc; omega)]
  obtain ⟨z, hz, hz0⟩ : ∃ z : Int, Lib.indexByte simSet.data.toList c = z ∧ 0 ≤ z := ⟨_, rfl, (sim_at c).2 hc⟩
  have hz := Lib.hid hz
  clear hc
  have HSZ := Lib.hid hsz
  clear hT hsz
  go_enter Tryd.func26, Tryd.ntmps26
  go_wp2_with (go_at_call 40; refine (indexByte_calls simSet c z hz.out _).mono ?_; rintro e w' ⟨rfl, rfl⟩)
  go_ret
  rw [hE.out]; exact ⟨rfl, rfl⟩

set_option maxRecDepth 100000 in
set_option maxHeartbeats 2000000 in
theorem spec_esc_quote (t : ByteArray) (x0 c : UInt8) (L : List UInt8) (w : World) (hT : TwoB t x0 c L) (hL : L.length ≤ 100) (hc : c.toNat = 34) :
    Calls Tryd.prog 26 #[.string t, .int .u8 34] w fun e w' => e = .returned (.int .i64 (escB 34 t.data.toList : Nat)) ∧ w = w' := by
  have hsz := hT.size
  have hs1 : 1 < t.size := by omega
  have hs2 : (2 : Int) ≤ (t.size : Int) := by omega
  have hs3 : (t.size : Int) ≤ 102 := by omega
  have h1 := hT.at1 hs1
  have HT := Lib.hid hT
  have hE : Hid (escB 34 t.data.toList = 2) := by
    show _ = _
    rw [hT.list, escB_cons]; unfold escBC; rw [if_pos (by unfold simpleEsc; omega)]
  obtain ⟨z, hz, hz0⟩ : ∃ z : Int, Lib.indexByte simSet.data.toList c = z ∧ z < 0 := ⟨_, rfl, by have := mt (sim_at c).1 (by omega); omega⟩
  have hz := Lib.hid hz
  have t34 : ((c.toNat : Int) == 34) = true := by simp; omega
  clear hc
  have HSZ := Lib.hid hsz
  clear hT hsz
  go_enter Tryd.func26, Tryd.ntmps26
  go_wp2_with (go_at_call 40; refine (indexByte_calls simSet c z hz.out _).mono ?_; rintro e w' ⟨rfl, rfl⟩)
  go_ret
  rw [hE.out]; exact ⟨rfl, rfl⟩

set_option maxRecDepth 100000 in
set_option maxHeartbeats 2000000 in
theorem spec_esc_none (t : ByteArray) (x0 c : UInt8) (L : List UInt8) (w : World) (hT : TwoB t x0 c L) (hL : L.length ≤ 100) (hc : ¬ simpleEsc 34 c.toNat) (h8 : ¬ (48 ≤ c.toNat ∧ c.toNat ≤ 55)) (hx : c.toNat ≠ 120) (hu : c.toNat ≠ 117) (hU : c.toNat ≠ 85) :
    Calls Tryd.prog 26 #[.string t, .int .u8 34] w fun e w' => e = .returned (.int .i64 (escB 34 t.data.toList : Nat)) ∧ w = w' := by
  have hsz := hT.size
  have hs1 : 1 < t.size := by omega
  have hs2 : (2 : Int) ≤ (t.size : Int) := by omega
  have hs3 : (t.size : Int) ≤ 102 := by omega
  have h1 := hT.at1 hs1
  have HT := Lib.hid hT
  have hE : Hid (escB 34 t.data.toList = 0) := by
    show _ = _
    rw [hT.list, escB_cons]; unfold escBC; rw [if_neg hc, if_neg h8, if_neg hx, if_neg hu, if_neg hU]
  unfold simpleEsc at hc
  obtain ⟨z, hz, hz0⟩ : ∃ z : Int, Lib.indexByte simSet.data.toList c = z ∧ z < 0 := ⟨_, rfl, by have := mt (sim_at c).1 (by omega); omega⟩
  have hz := Lib.hid hz
  have t34 : ((c.toNat : Int) == 34) = false := by simp; omega
  have t120 : ((c.toNat : Int) == 120) = false := by simp; omega
  have t117 : ((c.toNat : Int) == 117) = false := by simp; omega
  have t85 : ((c.toNat : Int) == 85) = false := by simp; omega
  by_cases h48 : 48 ≤ c.toNat
  · have p1 : (48 : Int) ≤ (c.toNat : Int) := by omega
    have p2 : ¬ (c.toNat : Int) ≤ 55 := by omega
    clear hc h8 hx hu hU h48
    go_enter Tryd.func26, Tryd.ntmps26
    go_wp2_with (go_at_call 40; refine (indexByte_calls simSet c z hz.out _).mono ?_; rintro e w' ⟨rfl, rfl⟩)
    go_ret
    rw [hE.out]; exact ⟨rfl, rfl⟩
  · have p1 : ¬ (48 : Int) ≤ (c.toNat : Int) := by omega
    clear hc h8 hx hu hU h48
    go_enter Tryd.func26, Tryd.ntmps26
    go_wp2_with (go_at_call 40; refine (indexByte_calls simSet c z hz.out _).mono ?_; rintro e w' ⟨rfl, rfl⟩)
    go_ret
    rw [hE.out]; exact ⟨rfl, rfl⟩

set_option maxRecDepth 100000 in
set_option maxHeartbeats 2000000 in
theorem spec_esc_x (t : ByteArray) (x0 c : UInt8) (L : List UInt8) (w : World) (hT : TwoB t x0 c L) (hL : L.length ≤ 100) (hc : c.toNat = 120) :
    Calls Tryd.prog 26 #[.string t, .int .u8 34] w fun e w' => e = .returned (.int .i64 (escB 34 t.data.toList : Nat)) ∧ w = w' := by
  have hsz := hT.size
  have hs1 : 1 < t.size := by omega
  have hs2 : (2 : Int) ≤ (t.size : Int) := by omega
  have hs3 : (t.size : Int) ≤ 102 := by omega
  have h1 := hT.at1 hs1
  have HT := Lib.hid hT
  have hE : Hid (escB 34 t.data.toList = sizeIf 255 4 (hexRun 16 2 0 L)) := by
    show _ = _
    rw [hT.list, escB_cons]; unfold escBC; rw [if_neg (by unfold simpleEsc; omega), if_neg (by omega), if_pos hc]
  obtain ⟨z, hz, hz0⟩ : ∃ z : Int, Lib.indexByte simSet.data.toList c = z ∧ z < 0 := ⟨_, rfl, by have := mt (sim_at c).1 (by omega); omega⟩
  have hz := Lib.hid hz
  have t34 : ((c.toNat : Int) == 34) = false := by simp; omega
  have t120 : ((c.toNat : Int) == 120) = true := by simp; omega
  clear hc
  have HSZ := Lib.hid hsz
  clear hT hsz
  by_cases hsh : t.size < 4
  · have p4 : (t.size : Int) < 4 := by omega
    have hs := Lib.hid hsh
    clear hsh
    go_enter Tryd.func26, Tryd.ntmps26
    go_wp2_with (go_at_call 40; refine (indexByte_calls simSet c z hz.out _).mono ?_; rintro e w' ⟨rfl, rfl⟩)
    go_ret
    rw [hE.out, hexRun_short _ _ _ _ (by have := hs.out; have := HSZ.out; first | omega | (simp; omega))]
    exact ⟨rfl, rfl⟩
  · have p4 : (4 : Int) ≤ (t.size : Int) := by omega
    have hlen : Hid (2 ≤ L.length) := by have := HSZ.out; show _ ≤ _; first | omega | (simp; omega)
    have hcut : Hid ((t.extract 2 4).data.toList = L.take 2) := by show _ = _; rw [HT.out.cut 2 4]; rfl
    have hne : Hid (L.take 2 ≠ []) := by
      have := hlen.out
      intro e
      have := congrArg List.length e
      simp only [List.length_take, List.length_nil] at this
      omega
    have hall := allB_dig 16 hexSet.data.toList hex_at (L.take 2) hne.out
    have hts : Hid ((t.extract 2 4).size ≤ 2) := by
      have h : (t.extract 2 4).data.toList.length = (t.extract 2 4).size := rfl
      rw [hcut.out, List.length_take] at h
      show _ ≤ _
      omega
    clear hsh
    go_enter Tryd.func26, Tryd.ntmps26
    go_wp2_with (go_at_call 40; refine (indexByte_calls simSet c z hz.out _).mono ?_; rintro e w' ⟨rfl, rfl⟩)
    go_at_call 41
    refine (allOf_calls (t.extract 2 4) hexSet _ (by have := hts.out; omega) (decide (∀ y ∈ L.take 2, digB 16 y.toNat < 16)) (by rw [hcut.out]; exact hall)).mono ?_
    rintro e w' ⟨rfl, rfl⟩
    by_cases hA : ∀ y ∈ L.take 2, digB 16 y.toNat < 16
    case neg =>
      have hnone := Lib.hid (hexRun_none 16 2 0 L hA)
      rw [decide_eq_false hA]
      clear hA hall
      go_wp2_with fail
      go_ret
      rw [hE.out, hnone.out]
      exact ⟨rfl, rfl⟩
    have HALL := Lib.hid hA
    rw [decide_eq_true hA]
    clear hA hall
    go_wp2_with fail
    go_at_call 42
    refine (valueOf_calls (t.extract 2 4) 16 _ (by decide) (by have := hts.out; omega) (by rw [hcut.out]; intro y hy; have h := HALL.out y hy; exact h)).mono ?_
    rintro e w' ⟨rfl, rfl⟩
    rw [hcut.out]
    have hv : Hid (valB 16 0 (L.take 2) < 256) := valB_bound 16 2 _ (.inr rfl) (by rw [List.length_take]; omega) HALL.out
    go_wp2_with fail
    go_ret
    rw [hE.out, hexRun_all 16 2 0 L (.inr rfl) hlen.out HALL.out]
    have ho : escOk 255 (valB 16 0 (L.take 2)) = true := decide_eq_true (by have := hv.out; omega)
    simp only [sizeIf, ho, if_true]
    exact ⟨rfl, trivial⟩

set_option maxRecDepth 100000 in
set_option maxHeartbeats 2000000 in
theorem spec_esc_u (t : ByteArray) (x0 c : UInt8) (L : List UInt8) (w : World) (hT : TwoB t x0 c L) (hL : L.length ≤ 100) (hc : c.toNat = 117) :
    Calls Tryd.prog 26 #[.string t, .int .u8 34] w fun e w' => e = .returned (.int .i64 (escB 34 t.data.toList : Nat)) ∧ w = w' := by
  have hsz := hT.size
  have hs1 : 1 < t.size := by omega
  have hs2 : (2 : Int) ≤ (t.size : Int) := by omega
  have hs3 : (t.size : Int) ≤ 102 := by omega
  have h1 := hT.at1 hs1
  have HT := Lib.hid hT
  have hE : Hid (escB 34 t.data.toList = sizeIf 1114111 6 (hexRun 16 4 0 L)) := by
    show _ = _
    rw [hT.list, escB_cons]; unfold escBC; rw [if_neg (by unfold simpleEsc; omega), if_neg (by omega), if_neg (by omega), if_pos hc]
  obtain ⟨z, hz, hz0⟩ : ∃ z : Int, Lib.indexByte simSet.data.toList c = z ∧ z < 0 := ⟨_, rfl, by have := mt (sim_at c).1 (by omega); omega⟩
  have hz := Lib.hid hz
  have t34 : ((c.toNat : Int) == 34) = false := by simp; omega
  have t120 : ((c.toNat : Int) == 120) = false := by simp; omega
  have t117 : ((c.toNat : Int) == 117) = true := by simp; omega
  clear hc
  have HSZ := Lib.hid hsz
  clear hT hsz
  by_cases hsh : t.size < 6
  · have p4 : (t.size : Int) < 6 := by omega
    have hs := Lib.hid hsh
    clear hsh
    go_enter Tryd.func26, Tryd.ntmps26
    go_wp2_with (go_at_call 40; refine (indexByte_calls simSet c z hz.out _).mono ?_; rintro e w' ⟨rfl, rfl⟩)
    go_ret
    rw [hE.out, hexRun_short _ _ _ _ (by have := hs.out; have := HSZ.out; first | omega | (simp; omega))]
    exact ⟨rfl, rfl⟩
  · have p4 : (6 : Int) ≤ (t.size : Int) := by omega
    have hlen : Hid (4 ≤ L.length) := by have := HSZ.out; show _ ≤ _; first | omega | (simp; omega)
    have hcut : Hid ((t.extract 2 6).data.toList = L.take 4) := by show _ = _; rw [HT.out.cut 2 6]; rfl
    have hne : Hid (L.take 4 ≠ []) := by
      have := hlen.out
      intro e
      have := congrArg List.length e
      simp only [List.length_take, List.length_nil] at this
      omega
    have hall := allB_dig 16 hexSet.data.toList hex_at (L.take 4) hne.out
    have hts : Hid ((t.extract 2 6).size ≤ 4) := by
      have h : (t.extract 2 6).data.toList.length = (t.extract 2 6).size := rfl
      rw [hcut.out, List.length_take] at h
      show _ ≤ _
      omega
    clear hsh
    go_enter Tryd.func26, Tryd.ntmps26
    go_wp2_with (go_at_call 40; refine (indexByte_calls simSet c z hz.out _).mono ?_; rintro e w' ⟨rfl, rfl⟩)
    go_at_call 41
    refine (allOf_calls (t.extract 2 6) hexSet _ (by have := hts.out; omega) (decide (∀ y ∈ L.take 4, digB 16 y.toNat < 16)) (by rw [hcut.out]; exact hall)).mono ?_
    rintro e w' ⟨rfl, rfl⟩
    by_cases hA : ∀ y ∈ L.take 4, digB 16 y.toNat < 16
    case neg =>
      have hnone := Lib.hid (hexRun_none 16 4 0 L hA)
      rw [decide_eq_false hA]
      clear hA hall
      go_wp2_with fail
      go_ret
      rw [hE.out, hnone.out]
      exact ⟨rfl, rfl⟩
    have HALL := Lib.hid hA
    rw [decide_eq_true hA]
    clear hA hall
    go_wp2_with fail
    go_at_call 42
    refine (valueOf_calls (t.extract 2 6) 16 _ (by decide) (by have := hts.out; omega) (by rw [hcut.out]; intro y hy; have h := HALL.out y hy; exact h)).mono ?_
    rintro e w' ⟨rfl, rfl⟩
    rw [hcut.out]
    generalize hV : valB 16 0 (L.take 4) = V
    have hV := Lib.hid hV
    by_cases hv1 : V ≤ 1114111
    case neg =>
      have hh := Lib.hid hv1
      have p : (1114111 : Int) < (V : Int) := by omega
      have p5 : (55296 : Int) ≤ (V : Int) := by omega
      have p6 : ¬ (V : Int) < 57344 := by omega
      clear hv1
      go_wp2_with fail
      go_ret
      rw [hE.out, hexRun_all 16 4 0 L (.inr rfl) hlen.out HALL.out, hV.out]
      have ho : escOk 1114111 V = false := decide_eq_false (by have := hh.out; omega)
      simp only [sizeIf, ho, Bool.false_eq_true, if_false]
      exact ⟨rfl, trivial⟩
    have p : ¬ (1114111 : Int) < (V : Int) := by omega
    by_cases hv2 : V < 55296
    · have hh := Lib.hid (And.intro hv1 hv2)
      have p2 : ¬ (55296 : Int) ≤ (V : Int) := by omega
      have p0 : decide ((1114111 : Int) < (V : Int)) = false := decide_eq_false p
      have p3 : decide ((55296 : Int) ≤ (V : Int)) = false := decide_eq_false p2
      clear hv1 hv2
      go_wp2_with fail
      go_ret
      rw [hE.out, hexRun_all 16 4 0 L (.inr rfl) hlen.out HALL.out, hV.out]
      have ho : escOk 1114111 V = true := decide_eq_true (by have := hh.out; omega)
      simp only [sizeIf, ho, if_true]
      exact ⟨rfl, trivial⟩
    have p2 : (55296 : Int) ≤ (V : Int) := by omega
    by_cases hv3 : V < 57344
    · have hh := Lib.hid (And.intro hv2 hv3)
      have p3 : (V : Int) < 57344 := by omega
      clear hv1 hv2 hv3
      go_wp2_with fail
      go_ret
      rw [hE.out, hexRun_all 16 4 0 L (.inr rfl) hlen.out HALL.out, hV.out]
      have ho : escOk 1114111 V = false := decide_eq_false (by have := hh.out; omega)
      simp only [sizeIf, ho, Bool.false_eq_true, if_false]
      exact ⟨rfl, trivial⟩
    · have hh := Lib.hid (And.intro hv1 hv3)
      have p3 : ¬ (V : Int) < 57344 := by omega
      clear hv1 hv2 hv3
      go_wp2_with fail
      go_ret
      rw [hE.out, hexRun_all 16 4 0 L (.inr rfl) hlen.out HALL.out, hV.out]
      have ho : escOk 1114111 V = true := decide_eq_true (by have := hh.out; omega)
      simp only [sizeIf, ho, if_true]
      exact ⟨rfl, trivial⟩

set_option maxRecDepth 100000 in
set_option maxHeartbeats 2000000 in
theorem spec_esc_U (t : ByteArray) (x0 c : UInt8) (L : List UInt8) (w : World) (hT : TwoB t x0 c L) (hL : L.length ≤ 100) (hc : c.toNat = 85) :
    Calls Tryd.prog 26 #[.string t, .int .u8 34] w fun e w' => e = .returned (.int .i64 (escB 34 t.data.toList : Nat)) ∧ w = w' := by
  have hsz := hT.size
  have hs1 : 1 < t.size := by omega
  have hs2 : (2 : Int) ≤ (t.size : Int) := by omega
  have hs3 : (t.size : Int) ≤ 102 := by omega
  have h1 := hT.at1 hs1
  have HT := Lib.hid hT
  have hE : Hid (escB 34 t.data.toList = sizeIf 1114111 10 (hexRun 16 8 0 L)) := by
    show _ = _
    rw [hT.list, escB_cons]; unfold escBC; rw [if_neg (by unfold simpleEsc; omega), if_neg (by omega), if_neg (by omega), if_neg (by omega), if_pos hc]
  obtain ⟨z, hz, hz0⟩ : ∃ z : Int, Lib.indexByte simSet.data.toList c = z ∧ z < 0 := ⟨_, rfl, by have := mt (sim_at c).1 (by omega); omega⟩
  have hz := Lib.hid hz
  have t34 : ((c.toNat : Int) == 34) = false := by simp; omega
  have t120 : ((c.toNat : Int) == 120) = false := by simp; omega
  have t117 : ((c.toNat : Int) == 117) = false := by simp; omega
  have t85 : ((c.toNat : Int) == 85) = true := by simp; omega
  clear hc
  have HSZ := Lib.hid hsz
  clear hT hsz
  by_cases hsh : t.size < 10
  · have p4 : (t.size : Int) < 10 := by omega
    have hs := Lib.hid hsh
    clear hsh
    go_enter Tryd.func26, Tryd.ntmps26
    go_wp2_with (go_at_call 40; refine (indexByte_calls simSet c z hz.out _).mono ?_; rintro e w' ⟨rfl, rfl⟩)
    go_ret
    rw [hE.out, hexRun_short _ _ _ _ (by have := hs.out; have := HSZ.out; first | omega | (simp; omega))]
    exact ⟨rfl, rfl⟩
  · have p4 : (10 : Int) ≤ (t.size : Int) := by omega
    have hlen : Hid (8 ≤ L.length) := by have := HSZ.out; show _ ≤ _; first | omega | (simp; omega)
    have hcut : Hid ((t.extract 2 10).data.toList = L.take 8) := by show _ = _; rw [HT.out.cut 2 10]; rfl
    have hne : Hid (L.take 8 ≠ []) := by
      have := hlen.out
      intro e
      have := congrArg List.length e
      simp only [List.length_take, List.length_nil] at this
      omega
    have hall := allB_dig 16 hexSet.data.toList hex_at (L.take 8) hne.out
    have hts : Hid ((t.extract 2 10).size ≤ 8) := by
      have h : (t.extract 2 10).data.toList.length = (t.extract 2 10).size := rfl
      rw [hcut.out, List.length_take] at h
      show _ ≤ _
      omega
    clear hsh
    go_enter Tryd.func26, Tryd.ntmps26
    go_wp2_with (go_at_call 40; refine (indexByte_calls simSet c z hz.out _).mono ?_; rintro e w' ⟨rfl, rfl⟩)
    go_at_call 41
    refine (allOf_calls (t.extract 2 10) hexSet _ (by have := hts.out; omega) (decide (∀ y ∈ L.take 8, digB 16 y.toNat < 16)) (by rw [hcut.out]; exact hall)).mono ?_
    rintro e w' ⟨rfl, rfl⟩
    by_cases hA : ∀ y ∈ L.take 8, digB 16 y.toNat < 16
    case neg =>
      have hnone := Lib.hid (hexRun_none 16 8 0 L hA)
      rw [decide_eq_false hA]
      clear hA hall
      go_wp2_with fail
      go_ret
      rw [hE.out, hnone.out]
      exact ⟨rfl, rfl⟩
    have HALL := Lib.hid hA
    rw [decide_eq_true hA]
    clear hA hall
    go_wp2_with fail
    go_at_call 42
    refine (valueOf_calls (t.extract 2 10) 16 _ (by decide) (by have := hts.out; omega) (by rw [hcut.out]; intro y hy; have h := HALL.out y hy; exact h)).mono ?_
    rintro e w' ⟨rfl, rfl⟩
    rw [hcut.out]
    generalize hV : valB 16 0 (L.take 8) = V
    have hV := Lib.hid hV
    by_cases hv1 : V ≤ 1114111
    case neg =>
      have hh := Lib.hid hv1
      have p : (1114111 : Int) < (V : Int) := by omega
      have p5 : (55296 : Int) ≤ (V : Int) := by omega
      have p6 : ¬ (V : Int) < 57344 := by omega
      clear hv1
      go_wp2_with fail
      go_ret
      rw [hE.out, hexRun_all 16 8 0 L (.inr rfl) hlen.out HALL.out, hV.out]
      have ho : escOk 1114111 V = false := decide_eq_false (by have := hh.out; omega)
      simp only [sizeIf, ho, Bool.false_eq_true, if_false]
      exact ⟨rfl, trivial⟩
    have p : ¬ (1114111 : Int) < (V : Int) := by omega
    by_cases hv2 : V < 55296
    · have hh := Lib.hid (And.intro hv1 hv2)
      have p2 : ¬ (55296 : Int) ≤ (V : Int) := by omega
      have p0 : decide ((1114111 : Int) < (V : Int)) = false := decide_eq_false p
      have p3 : decide ((55296 : Int) ≤ (V : Int)) = false := decide_eq_false p2
      clear hv1 hv2
      go_wp2_with fail
      go_ret
      rw [hE.out, hexRun_all 16 8 0 L (.inr rfl) hlen.out HALL.out, hV.out]
      have ho : escOk 1114111 V = true := decide_eq_true (by have := hh.out; omega)
      simp only [sizeIf, ho, if_true]
      exact ⟨rfl, trivial⟩
    have p2 : (55296 : Int) ≤ (V : Int) := by omega
    by_cases hv3 : V < 57344
    · have hh := Lib.hid (And.intro hv2 hv3)
      have p3 : (V : Int) < 57344 := by omega
      clear hv1 hv2 hv3
      go_wp2_with fail
      go_ret
      rw [hE.out, hexRun_all 16 8 0 L (.inr rfl) hlen.out HALL.out, hV.out]
      have ho : escOk 1114111 V = false := decide_eq_false (by have := hh.out; omega)
      simp only [sizeIf, ho, Bool.false_eq_true, if_false]
      exact ⟨rfl, trivial⟩
    · have hh := Lib.hid (And.intro hv1 hv3)
      have p3 : ¬ (V : Int) < 57344 := by omega
      clear hv1 hv2 hv3
      go_wp2_with fail
      go_ret
      rw [hE.out, hexRun_all 16 8 0 L (.inr rfl) hlen.out HALL.out, hV.out]
      have ho : escOk 1114111 V = true := decide_eq_true (by have := hh.out; omega)
      simp only [sizeIf, ho, if_true]
      exact ⟨rfl, trivial⟩

set_option maxRecDepth 100000 in
set_option maxHeartbeats 2000000 in
theorem spec_esc_o (t : ByteArray) (x0 c : UInt8) (L : List UInt8) (w : World) (hT : TwoB t x0 c L) (hL : L.length ≤ 100) (hc : 48 ≤ c.toNat ∧ c.toNat ≤ 55) :
    Calls Tryd.prog 26 #[.string t, .int .u8 34] w fun e w' => e = .returned (.int .i64 (escB 34 t.data.toList : Nat)) ∧ w = w' := by
  have hsz := hT.size
  have hs1 : 1 < t.size := by omega
  have hs2 : (2 : Int) ≤ (t.size : Int) := by omega
  have hs3 : (t.size : Int) ≤ 102 := by omega
  have h1 := hT.at1 hs1
  have HT := Lib.hid hT
  have hE : Hid (escB 34 t.data.toList = sizeIf 255 4 (hexRun 8 3 0 (c :: L))) := by
    show _ = _
    rw [hT.list, escB_cons]; unfold escBC; rw [if_neg (by unfold simpleEsc; omega), if_pos hc]
  obtain ⟨z, hz, hz0⟩ : ∃ z : Int, Lib.indexByte simSet.data.toList c = z ∧ z < 0 := ⟨_, rfl, by have := mt (sim_at c).1 (by omega); omega⟩
  have hz := Lib.hid hz
  have t34 : ((c.toNat : Int) == 34) = false := by simp; omega
  have t120 : ((c.toNat : Int) == 120) = false := by simp; omega
  have t117 : ((c.toNat : Int) == 117) = false := by simp; omega
  have t85 : ((c.toNat : Int) == 85) = false := by simp; omega
  have p1 : (48 : Int) ≤ (c.toNat : Int) := by omega
  have p2 : (c.toNat : Int) ≤ 55 := by omega
  clear hc
  have HSZ := Lib.hid hsz
  clear hT hsz
  by_cases hsh : t.size < 4
  · have p4 : (t.size : Int) < 4 := by omega
    have hs := Lib.hid hsh
    clear hsh
    go_enter Tryd.func26, Tryd.ntmps26
    go_wp2_with (go_at_call 40; refine (indexByte_calls simSet c z hz.out _).mono ?_; rintro e w' ⟨rfl, rfl⟩)
    go_ret
    rw [hE.out, hexRun_short _ _ _ _ (by have := hs.out; have := HSZ.out; first | omega | (simp; omega))]
    exact ⟨rfl, rfl⟩
  · have p4 : (4 : Int) ≤ (t.size : Int) := by omega
    have hlen : Hid (3 ≤ (c :: L).length) := by have := HSZ.out; show _ ≤ _; first | omega | (simp; omega)
    have hcut : Hid ((t.extract 1 4).data.toList = (c :: L).take 3) := by show _ = _; rw [HT.out.cut 1 4]; rfl
    have hne : Hid ((c :: L).take 3 ≠ []) := by
      have := hlen.out
      intro e
      have := congrArg List.length e
      simp only [List.length_take, List.length_nil] at this
      omega
    have hall := allB_dig 8 octSet.data.toList oct_at ((c :: L).take 3) hne.out
    have hts : Hid ((t.extract 1 4).size ≤ 3) := by
      have h : (t.extract 1 4).data.toList.length = (t.extract 1 4).size := rfl
      rw [hcut.out, List.length_take] at h
      show _ ≤ _
      omega
    clear hsh
    go_enter Tryd.func26, Tryd.ntmps26
    go_wp2_with (go_at_call 40; refine (indexByte_calls simSet c z hz.out _).mono ?_; rintro e w' ⟨rfl, rfl⟩)
    go_at_call 41
    refine (allOf_calls (t.extract 1 4) octSet _ (by have := hts.out; omega) (decide (∀ y ∈ (c :: L).take 3, digB 8 y.toNat < 8)) (by rw [hcut.out]; exact hall)).mono ?_
    rintro e w' ⟨rfl, rfl⟩
    by_cases hA : ∀ y ∈ (c :: L).take 3, digB 8 y.toNat < 8
    case neg =>
      have hnone := Lib.hid (hexRun_none 8 3 0 (c :: L) hA)
      rw [decide_eq_false hA]
      clear hA hall
      go_wp2_with fail
      go_ret
      rw [hE.out, hnone.out]
      exact ⟨rfl, rfl⟩
    have HALL := Lib.hid hA
    rw [decide_eq_true hA]
    clear hA hall
    go_wp2_with fail
    go_at_call 42
    refine (valueOf_calls (t.extract 1 4) 8 _ (by decide) (by have := hts.out; omega) (by rw [hcut.out]; intro y hy; have h := HALL.out y hy; exact Nat.lt_of_lt_of_le (by rw [dig_same 8 (.inl rfl) y h]; exact h) (by decide : 8 ≤ 16))).mono ?_
    rintro e w' ⟨rfl, rfl⟩
    rw [hcut.out]
    generalize hV : valB 8 0 ((c :: L).take 3) = V
    have hV := Lib.hid hV
    by_cases hv : V ≤ 255
    · have hh := Lib.hid hv
      have p : ¬ (255 : Int) < (V : Int) := by omega
      clear hv
      go_wp2_with fail
      go_ret
      rw [hE.out, hexRun_all 8 3 0 (c :: L) (.inl rfl) hlen.out HALL.out, hV.out]
      have ho : escOk 255 V = true := decide_eq_true (by have := hh.out; omega)
      simp only [sizeIf, ho, if_true]
      exact ⟨rfl, trivial⟩
    · have hh := Lib.hid hv
      have p : (255 : Int) < (V : Int) := by omega
      clear hv
      go_wp2_with fail
      go_ret
      rw [hE.out, hexRun_all 8 3 0 (c :: L) (.inl rfl) hlen.out HALL.out, hV.out]
      have ho : escOk 255 V = false := decide_eq_false (by have := hh.out; omega)
      simp only [sizeIf, ho, Bool.false_eq_true, if_false]
      exact ⟨rfl, trivial⟩

theorem spec_escape (t : ByteArray) (x0 c : UInt8) (L : List UInt8) (w : World) (hT : TwoB t x0 c L) (hL : L.length ≤ 100) :
    Calls Tryd.prog 26 #[.string t, .int .u8 34] w fun e w' => e = .returned (.int .i64 (escB 34 t.data.toList : Nat)) ∧ w = w' := by
  by_cases h1 : simpleEsc 34 c.toNat
  · have h2 : c.toNat = 34 ∨ c.toNat = 97 ∨ c.toNat = 98 ∨ c.toNat = 102 ∨ c.toNat = 110 ∨ c.toNat = 114 ∨ c.toNat = 116 ∨ c.toNat = 118 ∨ c.toNat = 92 := h1
    rcases h2 with h2 | h2
    · exact spec_esc_quote t x0 c L w hT hL h2
    · exact spec_esc_list t x0 c L w hT hL h2
  by_cases h2 : 48 ≤ c.toNat ∧ c.toNat ≤ 55
  · exact spec_esc_o t x0 c L w hT hL h2
  by_cases h3 : c.toNat = 120
  · exact spec_esc_x t x0 c L w hT hL h3
  by_cases h4 : c.toNat = 117
  · exact spec_esc_u t x0 c L w hT hL h4
  by_cases h5 : c.toNat = 85
  · exact spec_esc_U t x0 c L w hT hL h5
  exact spec_esc_none t x0 c L w hT hL h1 h2 h3 h4 h5
end Go.Proofs.YtnehkpoggkfikaaDoor
