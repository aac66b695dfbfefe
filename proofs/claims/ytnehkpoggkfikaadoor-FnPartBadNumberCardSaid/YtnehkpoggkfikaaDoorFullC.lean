/-
  The walks over a remark of the other kind: skipComment, and fullComment, told and not. Conditions: each law's own.
-/
import Derived.Test.YtnehkpoggkfikaaDoorLineC
namespace Go.Proofs.YtnehkpoggkfikaaDoor
open Go.RowKit
set_option linter.unusedVariables false

/-- How many characters there are up to a star with a stroke behind it, both read. -/
def comE : List Nat → Option Nat
  | [] => none
  | c :: l => if c = 42 ∧ l.head? = some 47 then some 2 else (comE l).map (· + 1)
theorem comE_hit (l : List Nat) : comE (42 :: 47 :: l) = some 2 := by unfold comE; rw [if_pos ⟨rfl, rfl⟩]
theorem comE_step {c : Nat} {l : List Nat} (h : ¬ (c = 42 ∧ l.head? = some 47)) : comE (c :: l) = (comE l).map (· + 1) := by
  conv => lhs; unfold comE
  rw [if_neg h]
/-- The way through a remark: some characters read, no end among them. -/
def ComTo (l done l' : List Nat) : Prop := l = done ++ l' ∧ comE l = (comE l').map (· + done.length)
theorem comTo_start (l : List Nat) : ComTo l [] l := ⟨rfl, by simp⟩
theorem comTo_step {l done l' : List Nat} {c : Nat} (h : ComTo l done (c :: l')) (hc : ¬ (c = 42 ∧ l'.head? = some 47)) : ComTo l (done ++ [c]) l' := by
  obtain ⟨h1, h2⟩ := h
  refine ⟨by simp [h1], ?_⟩
  rw [h2, comE_step hc]
  cases comE l' with
  | none => rfl
  | some k => simp; omega
theorem comTo_hit {l done l' : List Nat} (h : ComTo l done (42 :: 47 :: l')) : comE l = some (done.length + 2) ∧ l.take (done.length + 2) = done ++ [42, 47] ∧ l.drop (done.length + 2) = l' := by
  obtain ⟨h1, h2⟩ := h
  rw [comE_hit] at h2
  refine ⟨by rw [h2]; simp; omega, ?_, ?_⟩
  · rw [h1, List.take_append, List.take_of_length_le (by omega)]; simp
  · rw [h1, List.drop_append]; simp
theorem comTo_end {l done : List Nat} (h : ComTo l done []) : comE l = none ∧ done = l := by
  obtain ⟨h1, h2⟩ := h
  exact ⟨by rw [h2]; rfl, by simp [h1]⟩

theorem errorAtf_p (E : Env) (o : Option (List UInt8)) (l : List Nat) (n : Nat) (xs : List Value) (m : ByteArray) (mode l0 k0 off : Int) (a : Option Addr) (al ac : Nat) (w : World) (h : ScanP w E o l n xs) (hn : n < 100000) (ht : Tail w E.c.sb mode l0 k0) :
    Calls Tryd.prog 79 #[.pointer (some ⟨E.c.sb, 0, none⟩), .int .i64 off, .string m, .slice a al ac] w fun e w' =>
      e = .returned (.tuple #[]) ∧ (∃ a b : Int, ScanP w' E o l (n + 1) (xs ++ [.int .u64 a, .int .u64 b, .string m])) ∧ GF E w w' := by
  obtain ⟨s, h, ha⟩ := h
  exact (errorAtf_calls E s n xs m l0 k0 off a al ac w h hn ht.c13 ht.c14).mono fun e w' ⟨he, ⟨a, b, hS⟩, hF⟩ => ⟨he, ⟨a, b, s, hS, ha⟩, hF⟩

/-- What skipComment gives. -/
def SkipPost (E : Env) (o : Option (List UInt8)) (l : List Nat) (n : Nat) (xs : List Value) (w : World) (e : Ending) (w' : World) : Prop :=
  GF E w w' ∧ ((∃ k, comE l = some k ∧ e = .returned (.bool true) ∧ ScanP w' E (o.map (· ++ encs (l.take k))) (l.drop k) n xs) ∨
    (comE l = none ∧ e = .returned (.bool false) ∧ ∃ (a b : Int) (m : ByteArray), ScanP w' E (o.map (· ++ encs l)) [] (n + 1) (xs ++ [.int .u64 a, .int .u64 b, .string m])))
theorem map_more (o : Option (List UInt8)) (done : List Nat) (c : Nat) : (o.map (· ++ encs done)).map (· ++ enc c) = o.map (· ++ encs (done ++ [c])) := by cases o <;> simp [encs_append, encs]

set_option maxRecDepth 100000 in
set_option maxHeartbeats 4000000 in
theorem skipComment_calls (E : Env) (o : Option (List UInt8)) (l : List Nat) (n : Nat) (xs : List Value) (mode l0 k0 : Int) (w : World) (h : ScanP w E o l n xs) (hn : n < 100000) (ht : Tail w E.c.sb mode l0 k0) :
    Calls Tryd.prog 89 #[.pointer (some ⟨E.c.sb, 0, none⟩)] w (SkipPost E o l n xs w) := by
  have H := Lib.hid h
  have HT := Lib.hid ht
  clear h ht
  go_enter Tryd.func89, Tryd.ntmps89
  go_wp2_with fail
  go_loopg [2] l.length (fun g rv wr => rv = .bool false ∧ ∃ done l', g = l'.length ∧ Hid (ComTo l done l') ∧ ScanP wr E (o.map (· ++ encs done)) l' n xs ∧ GF E w wr)
  case atStart => exact ⟨rfl, [], l, rfl, comTo_start l, by cases o <;> simpa [encs] using H.out, GF.refl E w⟩
  case round =>
    obtain ⟨rfl, done, l', rfl, hL, hS, hF⟩ := hrel
    have hch := hS.ch
    have HS := Lib.hid hS
    have HF := Lib.hid hF
    clear hS hF
    cases l' with
    | nil =>
      simp only [chOf] at hch
      have HE := Lib.hid (comTo_end hL.out)
      go_wp2_with (go_at_call 79; refine (errorAtf_p E _ [] n xs _ mode l0 k0 _ _ _ _ _ HS.out hn (HT.out.gf HF.out)).mono ?_; rintro e w2 ⟨rfl, ⟨a, b, hS2⟩, hF2⟩; have hS2 := Lib.hid hS2; have hF2 := Lib.hid hF2)
      go_ret
      have hS3 := hS2.out
      rw [HE.out.2] at hS3
      exact ⟨HF.out.trans hF2.out, .inr ⟨HE.out.1, rfl, a, b, _, hS3⟩⟩
    | cons x l' =>
      simp only [chOf] at hch
      have hx4 : (0 : Int) ≤ (x : Int) := by omega
      go_wp2_with fail
      go_loopg [2] (l'.length + 1) (fun g rv wi => rv = .bool false ∧ ∃ done2 l2, g = l2.length ∧ Hid (ComTo l done2 l2 ∧ (l2 = x :: l' ∨ l2.length < (x :: l').length)) ∧ ScanP wi E (o.map (· ++ encs done2)) l2 n xs ∧ GF E w wi)
      case atStart => exact ⟨rfl, done, x :: l', rfl, ⟨hL.out, .inl rfl⟩, HS.out, HF.out⟩
      case round =>
        obtain ⟨rfl, done2, l2, rfl, hL2, hS2, hF2⟩ := hrel
        have hch2 := hS2.ch
        have HS2 := Lib.hid hS2
        have HF2 := Lib.hid hF2
        clear hS2 hF2 hch hL
        cases l2 with
        | nil =>
          simp only [chOf] at hch2
          go_wp2_with (go_at_call 57; refine (next_p_end E _ n xs _ HS2.out).mono ?_; rintro e w2 ⟨rfl, hS3, hF3⟩; have hS3 := Lib.hid hS3; have hF3 := Lib.hid hF3)
          go_roundg 0
          case measure => simp
          case rel => exact ⟨rfl, done2, [], rfl, hL2.out.1, hS3.out, HF2.out.trans hF3.out⟩
        | cons y l3 =>
          simp only [chOf] at hch2
          by_cases hy : y = 42
          · subst hy
            cases l3 with
            | nil =>
              have hnx := Lib.hid (comTo_step hL2.out.1 (by simp))
              have hms : Hid (([] : List Nat).length < (x :: l').length) := by show _ < _; simp
              go_wp2_with (go_at_call 57; refine (next_p E _ 42 [] n xs _ HS2.out).mono ?_; rintro e w2 ⟨rfl, hS3, hF3⟩; have hch3 := hS3.ch; simp only [chOf] at hch3; rw [map_more] at hS3; have hS3 := Lib.hid hS3; have hF3 := Lib.hid hF3)
              go_roundg 0
              case measure => simp
              case rel => exact ⟨rfl, done2 ++ [42], [], rfl, ⟨hnx.out, .inr hms.out⟩, hS3.out, HF2.out.trans hF3.out⟩
            | cons z l4 =>
              by_cases hz : z = 47
              · subst hz
                have hhit := Lib.hid (comTo_hit hL2.out.1)
                go_wp2_with (first | (go_at_call 57; refine (next_p E _ 42 (47 :: l4) n xs _ HS2.out).mono ?_; rintro e w2 ⟨rfl, hS3, hF3⟩; have hch3 := hS3.ch; simp only [chOf] at hch3; rw [map_more] at hS3; have HS3 := Lib.hid hS3; have HF3 := Lib.hid hF3; clear HS2 hS3 hF3) | (go_at_call 57; refine (next_p E _ 47 l4 n xs _ HS3.out).mono ?_; rintro e w3 ⟨rfl, hS4, hF4⟩; rw [map_more] at hS4; have hS4 := Lib.hid hS4; have hF4 := Lib.hid hF4))
                go_ret
                obtain ⟨a1, a2, a3⟩ := hhit.out
                refine ⟨(HF2.out.trans HF3.out).trans hF4.out, .inl ⟨_, a1, rfl, ?_⟩⟩
                rw [a2, a3]
                have := hS4.out
                simpa using this
              · have hnx := Lib.hid (comTo_step hL2.out.1 (by simp [hz]))
                have hms : Hid ((z :: l4).length < (x :: l').length) := by
                  show _ < _
                  rcases hL2.out.2 with h | h
                  · injection h with _ h; rw [← h]; simp
                  · simp at h ⊢; omega
                have hz1 : ((z : Int) == 47) = false := by simp; omega
                clear hz
                go_wp2_with (go_at_call 57; refine (next_p E _ 42 (z :: l4) n xs _ HS2.out).mono ?_; rintro e w2 ⟨rfl, hS3, hF3⟩; have hch3 := hS3.ch; simp only [chOf] at hch3; rw [map_more] at hS3; have hS3 := Lib.hid hS3; have hF3 := Lib.hid hF3)
                go_roundg (l4.length + 1)
                case measure => simp
                case rel => exact ⟨rfl, done2 ++ [42], z :: l4, rfl, ⟨hnx.out, .inr hms.out⟩, hS3.out, HF2.out.trans hF3.out⟩
          · have hnx := Lib.hid (comTo_step hL2.out.1 (fun h => hy h.1))
            have hms : Hid (l3.length < (x :: l').length) := by
              show _ < _
              rcases hL2.out.2 with h | h
              · injection h with _ h; rw [h]; simp
              · simp at h ⊢; omega
            have hy1 : ((y : Int) == 42) = false := by simp; omega
            clear hy
            go_wp2_with (go_at_call 57; refine (next_p E _ y l3 n xs _ HS2.out).mono ?_; rintro e w2 ⟨rfl, hS3, hF3⟩; rw [map_more] at hS3; have hS3 := Lib.hid hS3; have hF3 := Lib.hid hF3)
            go_roundg l3.length
            case measure => have := hms.out; simp at this ⊢; omega
            case rel => exact ⟨rfl, done2 ++ [y], l3, rfl, hnx.out, hS3.out, HF2.out.trans hF3.out⟩

/-- What a remark's reader gives, where remarks are told: the remark, or an error. -/
def FullTold (E : Env) (p : List UInt8) (l : List Nat) (n : Nat) (xs : List Value) (w : World) (e : Ending) (w' : World) : Prop :=
  e = .returned (.tuple #[]) ∧ GF E w w' ∧ ((∃ k, comE l = some k ∧ ∃ x y : Int, ScanAt w' E (p ++ encs (l.take k)) (l.drop k) (n + 1) (xs ++ [.int .u64 x, .int .u64 y, .string ⟨(p ++ encs (l.take k)).toArray⟩])) ∨
    (comE l = none ∧ ∃ (a b : Int) (m : ByteArray), ScanAt w' E (p ++ encs l) [] (n + 1) (xs ++ [.int .u64 a, .int .u64 b, .string m])))
/-- Where they are not told: nothing, or an error. -/
def FullOff (E : Env) (l : List Nat) (n : Nat) (xs : List Value) (w : World) (e : Ending) (w' : World) : Prop :=
  e = .returned (.tuple #[]) ∧ GF E w w' ∧ ((∃ k, comE l = some k ∧ ScanP w' E none (l.drop k) n xs) ∨
    (comE l = none ∧ ∃ (a b : Int) (m : ByteArray), ScanP w' E none [] (n + 1) (xs ++ [.int .u64 a, .int .u64 b, .string m])))

set_option maxRecDepth 100000 in
set_option maxHeartbeats 1000000 in
theorem fullComment_told (E : Env) (p : List UInt8) (l : List Nat) (n : Nat) (xs : List Value) (l0 k0 : Int) (w : World) (h : ScanAt w E p l n xs) (hn : n < 100000) (ht : Tail w E.c.sb 1 l0 k0) :
    Calls Tryd.prog 59 #[.pointer (some ⟨E.c.sb, 0, none⟩)] w (FullTold E p l n xs w) := by
  have HP : Hid (ScanP w E (some p) l n xs) := h
  have HT := Lib.hid ht
  have h11 := ht.c11
  clear h ht
  go_enter Tryd.func59, Tryd.ntmps59
  go_wp2_with fail
  go_at_call 89
  refine (skipComment_calls E (some p) l n xs 1 l0 k0 _ HP.out hn HT.out).mono ?_
  rintro e w2 ⟨hF2, ⟨k, hk, rfl, s, hS, hA⟩ | ⟨hk, rfl, hS2⟩⟩
  · have HS := Lib.hid hS
    have HA : Hid (At s (p ++ encs (l.take k)) (l.drop k)) := hA
    have HF := Lib.hid hF2
    have HK := Lib.hid hk
    have hT2 := Lib.hid (HT.out.gf hF2)
    clear hS hA hF2 hk
    go_wp2_with fail
    go_at_call 87
    refine (segment_calls E.c s _ HS.out.src HA.out.act HA.out.wide).mono ?_
    rintro e w3 ⟨rfl, q, rfl⟩
    have hconv := seg_string E.c s (w2.drewN q) (HS.out.src.drewN q) HA.out.act HA.out.wide
    go_wp2_with (go_at_call 86; refine (comment_at E (p ++ encs (l.take k)) (l.drop k) n xs ⟨s.seg.toArray⟩ 1 l0 k0 (w2.drewN q) ⟨s, HS.out.drewN q, HA.out⟩ hn (hT2.out.gf ((GF.refl E w2).drewN q))).mono ?_; rintro e w4 ⟨rfl, ⟨x, y, hS4⟩, hF4⟩; have hS4 := Lib.hid hS4)
    go_end0
    refine ⟨rfl, (HF.out.drewN q).trans hF4, .inl ⟨k, HK.out, x, y, ?_⟩⟩
    have := hS4.out
    rw [HA.out.seg] at this; exact this
  · have HF := Lib.hid hF2
    have HK := Lib.hid hk
    have HS := Lib.hid hS2
    clear hF2 hk hS2
    go_wp2_with fail
    go_end0
    obtain ⟨a, b, m, hS⟩ := HS.out
    exact ⟨rfl, HF.out, .inr ⟨HK.out, a, b, m, hS⟩⟩

set_option maxRecDepth 100000 in
set_option maxHeartbeats 1000000 in
theorem fullComment_off (E : Env) (p : List UInt8) (l : List Nat) (n : Nat) (xs : List Value) (l0 k0 : Int) (w : World) (h : ScanAt w E p l n xs) (hn : n < 100000) (hp : p ≠ []) (ht : Tail w E.c.sb 0 l0 k0) :
    Calls Tryd.prog 59 #[.pointer (some ⟨E.c.sb, 0, none⟩)] w (FullOff E l n xs w) := by
  have HP := Lib.hid h
  have HT := Lib.hid ht
  have h11 := ht.c11
  have hch := h.ch
  have HPP := Lib.hid hp
  clear h ht hp
  go_enter Tryd.func59, Tryd.ntmps59
  go_wp2_with (go_at_call 88; refine (stop_p E p l n xs _ HP.out HPP.out).mono ?_; rintro e w2 ⟨rfl, hS2, hF2⟩; have HS := Lib.hid hS2; have HF := Lib.hid hF2; have hT2 := Lib.hid (HT.out.gf hF2); clear hS2 hF2)
  go_at_call 89
  refine (skipComment_calls E none l n xs 0 l0 k0 _ HS.out hn hT2.out).mono ?_
  rintro e w3 ⟨hF3, ⟨k, hk, rfl, hS3⟩ | ⟨hk, rfl, a, b, m, hS3⟩⟩
  · have HK := Lib.hid hk
    have HS3 := Lib.hid hS3
    have HF3 := Lib.hid hF3
    clear hk hS3 hF3
    go_wp2_with fail
    go_end0
    exact ⟨rfl, HF.out.trans HF3.out, .inl ⟨k, HK.out, HS3.out⟩⟩
  · have HK := Lib.hid hk
    have HS3 := Lib.hid hS3
    have HF3 := Lib.hid hF3
    clear hk hS3 hF3
    go_wp2_with fail
    go_end0
    exact ⟨rfl, HF.out.trans HF3.out, .inr ⟨HK.out, a, b, m, HS3.out⟩⟩
end Go.Proofs.YtnehkpoggkfikaaDoor
