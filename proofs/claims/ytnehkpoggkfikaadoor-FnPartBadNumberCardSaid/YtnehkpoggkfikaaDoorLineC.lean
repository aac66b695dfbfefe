/-
  The walk over a remark that goes to its line's end. Conditions: each law's own.
-/
import Derived.Test.YtnehkpoggkfikaaDoorLine
namespace Go.Proofs.YtnehkpoggkfikaaDoor
open Go.RowKit
set_option linter.unusedVariables false

/-- A line's remark that is told. -/
def LineTold (E : Env) (p : List UInt8) (l : List Nat) (n : Nat) (xs : List Value) (w : World) (e : Ending) (w' : World) : Prop :=
  e = .returned (.tuple #[]) ∧ ∃ a rest, l = a ++ rest ∧ 10 ∉ a ∧ (rest = [] ∨ ∃ r, rest = 10 :: r) ∧ (∃ x y : Int, ScanAt w' E (p ++ encs a) rest (n + 1) (xs ++ [.int .u64 x, .int .u64 y, .string ⟨(p ++ encs a).toArray⟩])) ∧ GF E w w'
/-- A line's remark that is not told. -/
def LineOff (E : Env) (l : List Nat) (n : Nat) (xs : List Value) (w : World) (e : Ending) (w' : World) : Prop :=
  e = .returned (.tuple #[]) ∧ ∃ a rest, l = a ++ rest ∧ 10 ∉ a ∧ (rest = [] ∨ ∃ r, rest = 10 :: r) ∧ ScanP w' E none rest n xs ∧ GF E w w'

theorem seg_string (c : Cfg) (s : St) (w : World) (h : Src w c s) (ha : s.act = true) (hw : s.chw ≤ s.all.length) :
    Sem.run Tryd.prog (convert 41 9 (.slice (some ⟨c.bb, 0, none⟩) s.seg.length 4096)) w = .ok (.string ⟨s.seg.toArray⟩) w :=
  run_convert_bytes_back (P := Tryd.prog) _ 41 9 5 ⟨c.bb, 0, none⟩ 4096 s.seg Tryd.underlying41 Tryd.underlying5 Tryd.underlying9 (h.seg_cells ha hw)

set_option maxRecDepth 100000 in
set_option maxHeartbeats 1000000 in
theorem lineComment_told (E : Env) (p : List UInt8) (l : List Nat) (n : Nat) (xs : List Value) (l0 k0 : Int) (w : World) (h : ScanAt w E p l n xs) (hn : n < 100000) (ht : Tail w E.c.sb 1 l0 k0) :
    Calls Tryd.prog 58 #[.pointer (some ⟨E.c.sb, 0, none⟩)] w (LineTold E p l n xs w) := by
  have HP : Hid (ScanP w E (some p) l n xs) := h
  have HT := Lib.hid ht
  have h11 := ht.c11
  clear h ht
  go_enter Tryd.func58, Tryd.ntmps58
  go_wp2_with (go_at_call 85; refine (skipLine_calls E (some p) l n xs _ HP.out).mono ?_; rintro e w2 ⟨rfl, a, rest, hla, hna, hre, ⟨s, hS, hA⟩, hF2⟩; have HS := Lib.hid hS; have HA : Hid (At s (p ++ encs a) rest) := hA; have HL := Lib.hid (And.intro hla (And.intro hna hre)); have HF := Lib.hid hF2; have hT2 := Lib.hid (HT.out.gf hF2); clear hla hna hre hS hA hF2)
  go_at_call 87
  refine (segment_calls E.c s _ HS.out.src HA.out.act HA.out.wide).mono ?_
  rintro e w3 ⟨rfl, q, rfl⟩
  have hconv := seg_string E.c s (w2.drewN q) (HS.out.src.drewN q) HA.out.act HA.out.wide
  go_wp2_with (go_at_call 86; refine (comment_at E (p ++ encs a) rest n xs ⟨s.seg.toArray⟩ 1 l0 k0 (w2.drewN q) ⟨s, HS.out.drewN q, HA.out⟩ hn (hT2.out.gf ((GF.refl E w2).drewN q))).mono ?_; rintro e w4 ⟨rfl, ⟨x, y, hS4⟩, hF4⟩; have hS4 := Lib.hid hS4)
  go_end0
  obtain ⟨a1, a2, a3⟩ := HL.out
  refine ⟨rfl, a, rest, a1, a2, a3, ⟨x, y, ?_⟩, (HF.out.drewN q).trans hF4⟩
  have := hS4.out
  rw [HA.out.seg] at this; exact this

set_option maxRecDepth 100000 in
set_option maxHeartbeats 1000000 in
theorem lineComment_off (E : Env) (p : List UInt8) (l : List Nat) (n : Nat) (xs : List Value) (l0 k0 : Int) (w : World) (h : ScanAt w E p l n xs) (hp : p ≠ []) (ht : Tail w E.c.sb 0 l0 k0) :
    Calls Tryd.prog 58 #[.pointer (some ⟨E.c.sb, 0, none⟩)] w (LineOff E l n xs w) := by
  have HP := Lib.hid h
  have HT := Lib.hid ht
  have h11 := ht.c11
  have hch := h.ch
  have HPP := Lib.hid hp
  clear h ht hp
  go_enter Tryd.func58, Tryd.ntmps58
  go_wp2_with (first | (go_at_call 88; refine (stop_p E p l n xs _ HP.out HPP.out).mono ?_; rintro e w2 ⟨rfl, hS2, hF2⟩; have HS := Lib.hid hS2; have HF := Lib.hid hF2; clear hS2 hF2) | (go_at_call 85; refine (skipLine_calls E none l n xs _ HS.out).mono ?_; rintro e w3 ⟨rfl, a, rest, hla, hna, hre, hS3, hF3⟩; have HS3 := Lib.hid hS3; have HL := Lib.hid (And.intro hla (And.intro hna hre)); have HF3 := Lib.hid hF3; clear hla hna hre hS3 hF3))
  go_end0
  obtain ⟨a1, a2, a3⟩ := HL.out
  exact ⟨rfl, a, rest, a1, a2, a3, HS3.out, HF.out.trans HF3.out⟩
end Go.Proofs.YtnehkpoggkfikaaDoor
