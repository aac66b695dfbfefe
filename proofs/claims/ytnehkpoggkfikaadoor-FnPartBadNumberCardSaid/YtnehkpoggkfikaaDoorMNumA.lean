/-
  A number's end: the literal laid, whether it is bad. Conditions: each law's own.
  The walk through number, its last parts. Conditions: each law's own. (Printed by gentail.py.)
  The plain law of numbers (no program in it): what the reader of numbers computes at each literal of the specification, whatever stands behind it. No condition beyond each law's own.
  The plain law of bad numbers (no program in it): at each text of the statement's families the reader of numbers tells a fault. No condition beyond each law's own.
  Where an invalid digit is told it stands within what has been read; what a number's reader leaves. Conditions: each law's own.
  The walk through number: its code's parts. Conditions: each law's own. (Printed by gentail2.py.)
-/
import Derived.Test.YtnehkpoggkfikaaDoorMDig
import Derived.Test.YtnehkpoggkfikaaDoorMSep
import Derived.Deep.RegionHeld3
namespace Go.Proofs.YtnehkpoggkfikaaDoor
open Go.RowKit
set_option linter.unusedVariables false
def dropSeq : Nat → Code → Code
  | 0, c => c
  | n + 1, .seq _ b => dropSeq n b
  | _ + 1, c => c
noncomputable def t64 (n : Nat) : Code := dropSeq n (Tryd.f64.body.getD .skip)
theorem bool_eq {a b : Bool} (h : a = b) : Value.bool a = .bool b := by rw [h]
/-- A literal laid, in a number. -/
structure LitN (w0 w : World) (E : Env) (ib : Nat) (inv : Int) (P : List UInt8) (L : List Nat) (e : Nat) (m kind : Int) : Prop where
  num : NumAt w E ib inv P L e m
  c17 : w.cell? ⟨E.c.sb, 17, none⟩ = some (.string ⟨P.toArray⟩)
  c19 : w.cell? ⟨E.c.sb, 19, none⟩ = some (.int .u8 kind)
  tk : TK E w0 w
theorem LitN.gf {w0 w w' : World} {E : Env} {ib : Nat} {inv : Int} {P : List UInt8} {L : List Nat} {e e' : Nat} {m kind : Int} (h : LitN w0 w E ib inv P L e m kind) (hN : NumAt w' E ib inv P L e' m) (hF : GF E w w') : LitN w0 w' E ib inv P L e' m kind :=
  ⟨hN, (hF.tail 17 (by omega)).trans h.c17, (hF.tail 19 (by omega)).trans h.c19, h.tk.trans hF.tk⟩
theorem setLit_num (E : Env) (ib : Nat) (inv : Int) (P : List UInt8) (L : List Nat) (e : Nat) (m kind : Int) (ok : Bool) (w0 w : World) (h : NumAt w E ib inv P L e m) (h0 : GF E w0 w) :
    Calls Tryd.prog 80 #[.pointer (some ⟨E.c.sb, 0, none⟩), .int .u8 kind, .bool ok] w fun en w' => en = .returned (.tuple #[]) ∧ LitN w0 w' E ib inv P L e m kind := by
  refine (setLit_sa (E.up ib) P L e m 1 1 kind ok w h.sa h.tail).mono ?_
  rintro en w' ⟨rfl, ⟨ns, hn, hL⟩, hK⟩
  obtain ⟨n1, n2, n3, n4, n5, n6⟩ := h.ne
  have hblk := hK.block ib (by show ib < ib + 1; omega) n1 n2 n3 n4
  exact ⟨rfl, ⟨⟨ns, hn, hL.scan⟩, (World.cell?_of_block (w := w) hblk).trans h.c, (World.frozen?_of_block (w := w) hblk).trans h.fz, hL.tail, h.hb, h.ok, h.pB, h.vB⟩, hL.lit, hL.kind, h0.tk.trans (hK.down h.hb)⟩
theorem errorAtf_num (E : Env) (ib : Nat) (inv : Int) (p : List UInt8) (l : List Nat) (e : Nat) (m : Int) (t : ByteArray) (off : Int) (a : Option Addr) (al ac : Nat) (w : World) (h : NumAt w E ib inv p l e m) (hn : e < 100000) :
    Calls Tryd.prog 79 #[.pointer (some ⟨E.c.sb, 0, none⟩), .int .i64 off, .string t, .slice a al ac] w fun en w' => en = .returned (.tuple #[]) ∧ NumAt w' E ib inv p l (e + 1) m ∧ GF E w w' :=
  (errorAtf_sa (E.up ib) p l e t m 1 1 off a al ac w h.sa hn h.tail).mono fun en w' ⟨he, hS, hF⟩ => ⟨he, h.gf hS hF, hF.down h.hb⟩
/-- What number leaves: the literal, its kind, whether it is bad, e errors told. -/
def NumEnd (E : Env) (P : List UInt8) (L : List Nat) (e : Nat) (kind : Int) (bad : Bool) (w : World) (en : Ending) (w' : World) : Prop :=
  en = .returned (.tuple #[]) ∧ TK E w w' ∧ ∃ ns : List Note, ns.length = e ∧ EndAt w' E ⟨P.toArray⟩ kind bad (chOf L) ns
theorem litN_end {w0 w : World} {E : Env} {ib : Nat} {inv : Int} {P : List UInt8} {L : List Nat} {e : Nat} {m kind : Int} (h : LitN w0 w E ib inv P L e m kind) (b : Bool) : NumEnd E P L e kind b w0 (.returned (.tuple #[])) (w.setCell ⟨E.c.sb, 18, none⟩ (.bool b)) := by
  obtain ⟨ns, hn, s, hS, ha⟩ := h.num.sa
  have hS2 := hS.setTail 18 (by omega) (.bool b)
  obtain ⟨b18, h18⟩ := h.num.tail.c18
  have X : ∀ i, i ≠ 18 → (w.setCell ⟨E.c.sb, 18, none⟩ (.bool b)).cell? ⟨E.c.sb, i, none⟩ = w.cell? ⟨E.c.sb, i, none⟩ := fun i hi => World.cell?_setCell_other _ _ _ _ (fun e => hi (congrArg Addr.off e).symm)
  obtain ⟨h0, ⟨u, h1, hown⟩, f, hn', b1, b2, ne, hBs⟩ := hS2.told
  refine ⟨rfl, h.tk.setCell h.num.ok.p1 18 _, ns, hn, ⟨h.num.ok, (X 9 (by omega)).trans h.num.ch, (X 17 (by omega)).trans h.c17, World.cell?_setCell_same _ _ _ h18, (X 19 (by omega)).trans h.c19, ?_⟩⟩
  exact ⟨h0, ⟨u, h1, ownsRow_base hown (by show E.B ≤ ib + 1; have := h.num.hb; omega)⟩, f, hn', h.num.pB, h.num.vB, ne, Nat.le_trans (by show E.B ≤ ib + 1; have := h.num.hb; omega) hBs⟩
end Go.Proofs.YtnehkpoggkfikaaDoor

namespace Go.Proofs.YtnehkpoggkfikaaDoor
open Go.RowKit
set_option linter.unusedVariables false

set_option maxRecDepth 1000000 in
set_option maxHeartbeats 8000000 in
theorem tail14 (E : Env) (ib : Nat) (Pb : List UInt8) (L : List Nat) (e : Nat) (m : Int) (w wb : World) (kind base pre : Nat) (hd hs : Bool) (inv : Int) (ok sn : Bool) (u2 u3 u10 u11 u12 u13 u14 u15 u16 u17 u18 u19 u20 u21 u22 u23 u24 u25 u26 u27 u28 u29 u30 u31 u32 u33 u34 u35 u36 u37 u38 u39 u40 u41 u42 u43 u44 u45 u46 u47 u48 u49 u50 u51 u52 u53 u54 u55 u56 u57 u58 u59 u60 u61 u62 u63 u64 u65 u66 u67 u68 u69 u70 u71 u72 u73 u74 u75 u76 u77 u78 u79 u80 u81 u82 u83 u84 u85 u86 u87 u88 u89 u90 u91 u92 u93 u94 u95 u96 u97 u98 u99 u100 u101 u102 u103 u104 u105 u106 u107 u108 u109 u110 u111 u112 u113 u114 u115 u116 u117 u118 u119 u120 u121 u122 u123 u124 u125 u126 u127 u128 u129 u130 u131 u132 u133 u134 u135 u136 u137 u138 u139 u140 u141 u142 u143 u144 u145 u146 u147 u148 u149 u150 u151 u152 u153 u154 u155 u156 u157 u158 u159 u160 u161 u162 u163 u164 u165 u166 u167 u168 u169 u170 u171 u172 u173 u174 u175 u176 u177 u178 u179 u180 u181 u182 u183 u184 u185 u186 u187 u188 u189 u190 u191 u192 u193 u194 u195 u196 u197 u198 u199 u200 u201 u202 u203 u204 u205 u206 u207 u208 u209 u210 u211 u212 u213 u214 u215 u216 u217 u218 u219 u220 u221 u222 u223 u224 u225 u226 u227 u228 u229 u230 u231 u232 u233 u234 u235 u236 u237 u238 u239 u240 u241 u242 u243 u244 u245 : Value) (h : LitN w wb E ib inv Pb L e m kind) :
    Code.wp Tryd.prog (t64 14) (bodyPost Tryd.prog Tryd.f64 (NumEnd E Pb L e kind (!ok) w)) ⟨#[.pointer (some ⟨E.c.sb, 0, none⟩), .bool sn, u2, u3, .bool ok, .int .u8 (kind : Int), .int .i64 (base : Int), .int .i32 (pre : Int), .int .i64 (dsv hd hs), .pointer (some ⟨ib, 0, none⟩), u10, u11, u12, u13, u14, u15, u16, u17, u18, u19, u20, u21, u22, u23, u24, u25, u26, u27, u28, u29, u30, u31, u32, u33, u34, u35, u36, u37, u38, u39, u40, u41, u42, u43, u44, u45, u46, u47, u48, u49, u50, u51, u52, u53, u54, u55, u56, u57, u58, u59, u60, u61, u62, u63, u64, u65, u66, u67, u68, u69, u70, u71, u72, u73, u74, u75, u76, u77, u78, u79, u80, u81, u82, u83, u84, u85, u86, u87, u88, u89, u90, u91, u92, u93, u94, u95, u96, u97, u98, u99, u100, u101, u102, u103, u104, u105, u106, u107, u108, u109, u110, u111, u112, u113, u114, u115, u116, u117, u118, u119, u120, u121, u122, u123, u124, u125, u126, u127, u128, u129, u130, u131, u132, u133, u134, u135, u136, u137, u138, u139, u140, u141, u142, u143, u144, u145, u146, u147, u148, u149, u150, u151, u152, u153, u154, u155, u156, u157, u158, u159, u160, u161, u162, u163, u164, u165, u166, u167, u168, u169, u170, u171, u172, u173, u174, u175, u176, u177, u178, u179, u180, u181, u182, u183, u184, u185, u186, u187, u188, u189, u190, u191, u192, u193, u194, u195, u196, u197, u198, u199, u200, u201, u202, u203, u204, u205, u206, u207, u208, u209, u210, u211, u212, u213, u214, u215, u216, u217, u218, u219, u220, u221, u222, u223, u224, u225, u226, u227, u228, u229, u230, u231, u232, u233, u234, u235, u236, u237, u238, u239, u240, u241, u242, u243, u244, u245], []⟩ wb := by
  obtain ⟨b18, c18⟩ := h.num.tail.c18
  have f18 : wb.frozen? ⟨E.c.sb, 18, none⟩ = false := by obtain ⟨ns, hn, s, hS, ha⟩ := h.num.sa; obtain ⟨-, -, cur, hR, -⟩ := hS.src; exact hR.fs 18
  have H := Lib.hid h
  clear h
  conv => arg 2; whnf
  go_wp2_with fail
  go_end0
  exact litN_end H.out (!ok)

/-- A number's end, its low lines looked at: z is the place that invalidSep tells. -/
def NumEnd2 (E : Env) (Pb : List UInt8) (L : List Nat) (kind : Int) (ok hs : Bool) (w : World) (en : Ending) (w' : World) : Prop :=
  ∃ z : Int, (ok = true → hs = true → Sep.Answer ⟨Pb.toArray⟩ (Sep.sepHex ⟨Pb.toArray⟩) (Sep.sepSt ⟨Pb.toArray⟩) z) ∧ NumEnd E Pb L (er (ok && !(hs && decide (0 ≤ z)))) kind (!(ok && !(hs && decide (0 ≤ z)))) w en w'
set_option maxRecDepth 1000000 in
set_option maxHeartbeats 8000000 in
theorem tail13 (E : Env) (ib : Nat) (Pb : List UInt8) (L : List Nat) (m : Int) (w wb : World) (kind base pre : Nat) (hd hs : Bool) (inv : Int) (ok sn : Bool) (u2 u3 u10 u11 u12 u13 u14 u15 u16 u17 u18 u19 u20 u21 u22 u23 u24 u25 u26 u27 u28 u29 u30 u31 u32 u33 u34 u35 u36 u37 u38 u39 u40 u41 u42 u43 u44 u45 u46 u47 u48 u49 u50 u51 u52 u53 u54 u55 u56 u57 u58 u59 u60 u61 u62 u63 u64 u65 u66 u67 u68 u69 u70 u71 u72 u73 u74 u75 u76 u77 u78 u79 u80 u81 u82 u83 u84 u85 u86 u87 u88 u89 u90 u91 u92 u93 u94 u95 u96 u97 u98 u99 u100 u101 u102 u103 u104 u105 u106 u107 u108 u109 u110 u111 u112 u113 u114 u115 u116 u117 u118 u119 u120 u121 u122 u123 u124 u125 u126 u127 u128 u129 u130 u131 u132 u133 u134 u135 u136 u137 u138 u139 u140 u141 u142 u143 u144 u145 u146 u147 u148 u149 u150 u151 u152 u153 u154 u155 u156 u157 u158 u159 u160 u161 u162 u163 u164 u165 u166 u167 u168 u169 u170 u171 u172 u173 u174 u175 u176 u177 u178 u179 u180 u181 u182 u183 u184 u185 u186 u187 u188 u189 u190 u191 u192 u193 u194 u195 u196 u197 u198 u199 u200 u201 u202 u203 u204 u205 u206 u207 u208 u209 u210 u211 u212 u213 u214 u215 u216 u217 u218 u219 u220 u221 u222 u223 u224 u225 u226 u227 u228 u229 u230 u231 u232 u233 u234 u235 u236 u237 u238 u239 u240 u241 u242 u243 u244 u245 : Value) (h : LitN w wb E ib inv Pb L (er ok) m kind) (hsz : Pb.length ≤ 100000) :
    Code.wp Tryd.prog (t64 13) (bodyPost Tryd.prog Tryd.f64 (NumEnd2 E Pb L kind ok hs w)) ⟨#[.pointer (some ⟨E.c.sb, 0, none⟩), .bool sn, u2, u3, .bool ok, .int .u8 (kind : Int), .int .i64 (base : Int), .int .i32 (pre : Int), .int .i64 (dsv hd hs), .pointer (some ⟨ib, 0, none⟩), u10, u11, u12, u13, u14, u15, u16, u17, u18, u19, u20, u21, u22, u23, u24, u25, u26, u27, u28, u29, u30, u31, u32, u33, u34, u35, u36, u37, u38, u39, u40, u41, u42, u43, u44, u45, u46, u47, u48, u49, u50, u51, u52, u53, u54, u55, u56, u57, u58, u59, u60, u61, u62, u63, u64, u65, u66, u67, u68, u69, u70, u71, u72, u73, u74, u75, u76, u77, u78, u79, u80, u81, u82, u83, u84, u85, u86, u87, u88, u89, u90, u91, u92, u93, u94, u95, u96, u97, u98, u99, u100, u101, u102, u103, u104, u105, u106, u107, u108, u109, u110, u111, u112, u113, u114, u115, u116, u117, u118, u119, u120, u121, u122, u123, u124, u125, u126, u127, u128, u129, u130, u131, u132, u133, u134, u135, u136, u137, u138, u139, u140, u141, u142, u143, u144, u145, u146, u147, u148, u149, u150, u151, u152, u153, u154, u155, u156, u157, u158, u159, u160, u161, u162, u163, u164, u165, u166, u167, u168, u169, u170, u171, u172, u173, u174, u175, u176, u177, u178, u179, u180, u181, u182, u183, u184, u185, u186, u187, u188, u189, u190, u191, u192, u193, u194, u195, u196, u197, u198, u199, u200, u201, u202, u203, u204, u205, u206, u207, u208, u209, u210, u211, u212, u213, u214, u215, u216, u217, u218, u219, u220, u221, u222, u223, u224, u225, u226, u227, u228, u229, u230, u231, u232, u233, u234, u235, u236, u237, u238, u239, u240, u241, u242, u243, u244, u245], []⟩ wb := by
  obtain ⟨b18, c18⟩ := h.num.tail.c18
  have c17 := h.c17
  have f18 : wb.frozen? ⟨E.c.sb, 18, none⟩ = false := by obtain ⟨ns, hn, s, hS, ha⟩ := h.num.sa; obtain ⟨-, -, cur, hR, -⟩ := hS.src; exact hR.fs 18
  have hfz : ∀ w2 : World, GF E wb w2 → w2.frozen? ⟨E.c.sb, 18, none⟩ = false := fun w2 hF => (hF.fz 18).trans f18
  have hfz := Lib.hid hfz
  have H := Lib.hid h
  have ha2 := dsv_and2 hd hs
  have hmx : Hid ((⟨Pb.toArray⟩ : ByteArray).size ≤ maxLen) := by show Pb.toArray.size ≤ _; unfold maxLen; simp; omega
  clear h hsz
  conv => arg 2; whnf
  cases hs
  · simp only [Bool.false_eq_true, if_false] at ha2
    cases ok
    all_goals as_aux_lemma =>
      go_wp2_with fail
      go_end0
      exact ⟨-1, by simp, by simpa using litN_end H.out _⟩
  · simp only [if_true] at ha2
    cases ok
    · as_aux_lemma =>
        go_wp2_with fail
        go_end0
        exact ⟨-1, by simp, by simpa using litN_end H.out _⟩
    · as_aux_lemma =>
        go_wp2_with fail
        go_at_call 96
        refine (Sep.invalidSep_calls ⟨Pb.toArray⟩ hmx.out _).mono ?_
        rintro en w2 ⟨⟨z, rfl, hans⟩, rfl⟩
        have hans := Lib.hid hans
        by_cases hz : 0 ≤ z
        · have hz' := Lib.hid hz
          go_wp2_with (go_at_call 79; refine (errorAtf_num E ib inv Pb L 0 m _ _ _ _ _ _ H.out.num (by omega)).mono ?_; rintro en w4 ⟨rfl, hS4, hF4⟩; have g18 := hfz.out w4 hF4; have H4 := Lib.hid (H.out.gf hS4 hF4); obtain ⟨b4, d18⟩ := hS4.tail.c18)
          go_end0
          exact ⟨z, fun _ _ => hans.out, by rw [show decide (0 ≤ z) = true from decide_eq_true hz'.out]; simpa [er] using litN_end H4.out true⟩
        · have hz' := Lib.hid hz
          go_wp2_with fail
          go_end0
          exact ⟨z, fun _ _ => hans.out, by rw [show decide (0 ≤ z) = false from decide_eq_false (Int.not_le.2 hz'.out)]; simpa [er] using litN_end H.out false⟩
end Go.Proofs.YtnehkpoggkfikaaDoor

namespace Go.Proofs.YtnehkpoggkfikaaDoor
open Go.RowKit
set_option linter.unusedVariables false

/-- No digit and no low line begins here. -/
def Stop (hex : Bool) (l : List Nat) : Prop := ∀ c t, l = c :: t → c ≠ 95 ∧ ¬ dgt hex c
/-- Digits and low lines. -/
def Cls (hex : Bool) (a : List Nat) : Prop := ∀ c ∈ a, c = 95 ∨ dgt hex c
def anyD (a : List Nat) : Bool := a.any fun c => decide (c ≠ 95)
def anyL (a : List Nat) : Bool := a.any fun c => decide (c = 95)

theorem digR_stop (hex : Bool) (base : Nat) {rest : List Nat} (hr : Stop hex rest) (pos : Nat) (hd hs : Bool) (inv : Int) : digR hex base pos rest hd hs inv = ⟨0, hd, hs, inv⟩ := by
  cases rest with
  | nil => rfl
  | cons c t =>
    obtain ⟨h1, h2⟩ := hr c t rfl
    unfold digR; rw [if_neg h1, if_neg h2]
theorem digR_all (hex : Bool) (base : Nat) {rest : List Nat} (hr : Stop hex rest) : ∀ (a : List Nat) (ha : Cls hex a) (pos : Nat) (hd hs : Bool) (inv : Int),
    ∃ inv', digR hex base pos (a ++ rest) hd hs inv = ⟨a.length, hd || anyD a, hs || anyL a, inv'⟩ ∧ ((hex = true ∨ ∀ c ∈ a, c = 95 ∨ c < 48 + base) → inv' = inv) ∧ ((0 ≤ inv ∨ (hex = false ∧ ∃ c ∈ a, c ≠ 95 ∧ 48 + base ≤ c)) → 0 ≤ inv') := by
  intro a
  induction a with
  | nil =>
    intro ha pos hd hs inv
    exact ⟨inv, by rw [List.nil_append, digR_stop hex base hr]; simp [anyD, anyL], fun _ => rfl, fun h => h.elim id (fun h => by obtain ⟨_, c, hc, _⟩ := h; cases hc)⟩
  | cons c a ih =>
    intro ha pos hd hs inv
    have ha' : Cls hex a := fun x hx => ha x (by simp [hx])
    by_cases h95 : c = 95
    · subst h95
      obtain ⟨inv', e1, e2, e3⟩ := ih ha' (pos + 1) hd true inv
      refine ⟨inv', ?_, fun h => e2 (h.imp id fun h x hx => h x (by simp [hx])), fun h => e3 (h.imp id ?_)⟩
      · rw [List.cons_append]; unfold digR; rw [if_pos rfl, e1]; simp [DR.add, anyD, anyL]
      · rintro ⟨h1, x, hx, h2⟩
        rcases List.mem_cons.1 hx with rfl | hx
        · exact absurd rfl h2.1
        · exact ⟨h1, x, hx, h2⟩
    · have hc : dgt hex c := (ha c (by simp)).resolve_left h95
      obtain ⟨inv', e1, e2, e3⟩ := ih ha' (pos + 1) true hs (if hex = true then inv else invOf base pos c inv)
      refine ⟨inv', ?_, ?_, ?_⟩
      · rw [List.cons_append]; unfold digR; rw [if_neg h95, if_pos hc, e1]; simp [DR.add, anyD, anyL, h95]
      · intro h
        rw [e2 (h.imp id fun h x hx => h x (by simp [hx]))]
        rcases h with h | h
        · rw [if_pos h]
        · split
          · rfl
          · have := (h c (by simp)).resolve_left h95
            unfold invOf; rw [if_neg (by omega)]
      · intro h
        apply e3
        rcases h with h | ⟨h1, x, hx, h2⟩
        · left; split
          · exact h
          · unfold invOf; rw [if_neg (by omega)]; exact h
        · rcases List.mem_cons.1 hx with rfl | hx
          · left; rw [h1]; simp only [Bool.false_eq_true, if_false]; unfold invOf; split <;> omega
          · exact .inr ⟨h1, x, hx, h2⟩
/-- Where an invalid digit is told, it is one of the row. -/
theorem digR_inv (hex : Bool) (base : Nat) : ∀ (l : List Nat) (pos : Nat) (hd hs : Bool) (inv : Int), (digR hex base pos l hd hs inv).inv = inv ∨ (digR hex base pos l hd hs inv).inv < (pos : Int) + (digR hex base pos l hd hs inv).k := by
  intro l
  induction l with
  | nil => intros; exact .inl rfl
  | cons c l ih =>
    intro pos hd hs inv
    unfold digR
    split
    · have := ih (pos + 1) hd true inv
      simp only [DR.add]; omega
    · split
      · have := ih (pos + 1) true hs (if hex = true then inv else invOf base pos c inv)
        have h2 : (if hex = true then inv else invOf base pos c inv) = inv ∨ (if hex = true then inv else invOf base pos c inv) = (pos : Int) := by
          split
          · exact .inl rfl
          · unfold invOf; split
            · exact .inr rfl
            · exact .inl rfl
        simp only [DR.add]; omega
      · exact .inl rfl

/-- A reader of numbers that has read d and has r ahead. -/
def RdSt (l d r : List Nat) (n : NS) : Prop := l = d ++ r ∧ n.k = d.length
theorem RdSt.drop {l d r : List Nat} {n : NS} (h : RdSt l d r n) : l.drop n.k = r := by rw [h.1, h.2, List.drop_left]
theorem st_dig {q : Nat} {l d a r : List Nat} {n : NS} (h : RdSt l d (a ++ r) n) (ha : Cls (decide (n.base = 16)) a) (hr : Stop (decide (n.base = 16)) r) :
    ∃ inv', nDig q l n = { n with k := n.k + a.length, hd := n.hd || anyD a, hs := n.hs || anyL a, inv := inv' } ∧ RdSt l (d ++ a) r (nDig q l n) ∧ ((n.base = 16 ∨ ∀ c ∈ a, c = 95 ∨ c < 48 + n.base) → inv' = n.inv) ∧ ((0 ≤ n.inv ∨ (n.base ≠ 16 ∧ ∃ c ∈ a, c ≠ 95 ∧ 48 + n.base ≤ c)) → 0 ≤ inv') := by
  obtain ⟨inv', e1, e2, e3⟩ := digR_all (decide (n.base = 16)) n.base hr a ha (q + n.k) false false n.inv
  have e : nDig q l n = { n with k := n.k + a.length, hd := n.hd || anyD a, hs := n.hs || anyL a, inv := inv' } := by
    unfold nDig; rw [h.drop, e1]; simp
  refine ⟨inv', e, ⟨?_, ?_⟩, fun h => e2 (h.imp (fun h => by simp [h]) id), fun h => e3 (h.imp id (fun h => ⟨by simp [h.1], h.2⟩))⟩
  · rw [h.1, List.append_assoc]
  · rw [e, List.length_append, h.2]

/-- The parts of a literal behind its whole digits. -/
def ptL : Option (List Nat) → List Nat
  | none => []
  | some f => 46 :: f
def exL : Option (Nat × List Nat × List Nat) → List Nat
  | none => []
  | some (c, sg, ds) => c :: (sg ++ ds)
def imL (b : Bool) : List Nat := if b = true then [105] else []
/-- What stands behind a literal. -/
def Behd (l : List Nat) : Prop := ∀ c t, l = c :: t → c = 32 ∨ c = 41 ∨ c = 10 ∨ c = 44 ∨ c = 43 ∨ c = 59 ∨ c = 9 ∨ c = 93
theorem behd_stop (hex : Bool) {l : List Nat} (h : Behd l) : Stop hex l := by
  intro c t e
  rcases h c t e with rfl | rfl | rfl | rfl | rfl | rfl | rfl | rfl <;> cases hex <;> decide +kernel
theorem stop_cons {hex : Bool} {c : Nat} {t : List Nat} (h : c ≠ 95 ∧ ¬ dgt hex c) : Stop hex (c :: t) := by
  intro c' t' e
  injection e with e1 e2
  subst e1; exact h
theorem im_stop (hex : Bool) (im : Bool) {more : List Nat} (h : Behd more) : Stop hex (imL im ++ more) := by
  cases im
  · exact behd_stop hex h
  · exact stop_cons (by cases hex <;> decide +kernel)
/-- The exponent's letter fits the base. -/
def LetOk (hex : Bool) (c : Nat) : Prop := (hex = true ∧ (c = 112 ∨ c = 80)) ∨ (hex = false ∧ (c = 101 ∨ c = 69))
def ExOk (hex : Bool) : Option (Nat × List Nat × List Nat) → Prop
  | none => True
  | some (c, sg, ds) => LetOk hex c ∧ (sg = [] ∨ sg = [43] ∨ sg = [45]) ∧ Cls false ds ∧ anyD ds = true ∧ ds.head? ≠ some 95
theorem ex_stop (hex : Bool) {x : Option (Nat × List Nat × List Nat)} (hx : ExOk hex x) (im : Bool) {more : List Nat} (h : Behd more) : Stop hex (exL x ++ (imL im ++ more)) := by
  cases x with
  | none => exact im_stop hex im h
  | some x =>
    obtain ⟨c, sg, ds⟩ := x
    refine stop_cons ?_
    rcases hx.1 with ⟨rfl, rfl | rfl⟩ | ⟨rfl, rfl | rfl⟩ <;> decide +kernel
theorem pt_stop (hex : Bool) (f : Option (List Nat)) {x : Option (Nat × List Nat × List Nat)} (hx : ExOk hex x) (im : Bool) {more : List Nat} (h : Behd more) : Stop hex (ptL f ++ (exL x ++ (imL im ++ more))) := by
  cases f with
  | none => exact ex_stop hex hx im h
  | some f => exact stop_cons (by cases hex <;> decide +kernel)

/-- The mark of an imaginary number. -/
theorem st_imag {l d : List Nat} {n : NS} {im : Bool} {more : List Nat} (h : RdSt l d (imL im ++ more) n) (hm : Behd more) : nImag l n = { n with k := n.k + (imL im).length, kind := if im = true then 2 else n.kind } := by
  unfold nImag
  rw [h.drop]
  cases im
  · rw [if_neg]
    · rfl
    · intro e
      cases more with
      | nil => cases e
      | cons c t =>
        have : c = 105 := by simpa [imL] using e
        rcases hm c t rfl with h | h | h | h | h | h | h | h <;> omega
  · rw [if_pos rfl]; rfl
theorem isExp_no {l d : List Nat} {n : NS} {im : Bool} {more : List Nat} (h : RdSt l d (imL im ++ more) n) (hm : Behd more) : isExp l n = false := by
  unfold isExp
  rw [h.drop]
  cases im
  · cases more with
    | nil => rfl
    | cons c t => rcases hm c t rfl with rfl | rfl | rfl | rfl | rfl | rfl | rfl | rfl <;> (show decide _ = false; decide +kernel)
  · show decide _ = false; decide +kernel

/-- What is read behind the fraction. -/
theorem num_tail {q : Nat} {l d : List Nat} {n : NS} {hex : Bool} {x : Option (Nat × List Nat × List Nat)} {im : Bool} {more : List Nat} (h : RdSt l d (exL x ++ (imL im ++ more)) n) (hm : Behd more) (hx : ExOk hex x)
    (hok : n.ok = true) (hhd : n.hd = true) (hp : (hex = true ∧ n.pre = 120) ∨ (hex = false ∧ (n.pre = 0 ∨ n.pre = 48)) ∨ (x = none ∧ n.kind = 0)) (h120 : n.pre = 120 → n.kind = 1 → x.isSome = true) :
    ∃ n2, nImag l (nExp q l (nNo n)) = n2 ∧ n2.k = d.length + (exL x ++ imL im).length ∧ n2.kind = (if im = true then 2 else if x.isSome = true then 1 else n.kind) ∧ n2.ok = true ∧ (x = none → n2.inv = n.inv) := by
  have hno : nNo n = n := by
    have h2 : (n.ok && n.hd) = n.ok := by rw [hok, hhd]; rfl
    unfold nNo; rw [h2]
  rw [hno]
  refine ⟨_, rfl, ?_⟩
  cases x with
  | none =>
    have hE : nExp q l n = n := by
      unfold nExp
      rw [isExp_no (n := n) h hm]
      simp only [Bool.false_eq_true, if_false]
      have : (decide (n.pre = 120) && decide (n.kind = 1)) = false := by
        cases hb : (decide (n.pre = 120) && decide (n.kind = 1)) with
        | false => rfl
        | true =>
          simp only [Bool.and_eq_true, decide_eq_true_eq] at hb
          have := h120 hb.1 hb.2
          cases this
      rw [this]; simp
    rw [hE, st_imag (n := n) (im := im) h hm]
    refine ⟨by simp only [exL, List.nil_append]; rw [h.2], by simp, hok, fun _ => rfl⟩
  | some x =>
    obtain ⟨c, sg, ds⟩ := x
    obtain ⟨hl, hsg, hds, had, h95⟩ := hx
    have hd1 : l.drop n.k = c :: (sg ++ (ds ++ (imL im ++ more))) := by rw [h.drop]; simp [exL]
    have hne : low c = 101 ∨ low c = 112 := by
      rcases hl with ⟨_, rfl | rfl⟩ | ⟨_, rfl | rfl⟩ <;> decide +kernel
    have hbad : expBad (low c) n.pre = false := by
      have l1 : low 112 = 112 := by decide +kernel
      have l2 : low 80 = 112 := by decide +kernel
      have l3 : low 101 = 101 := by decide +kernel
      have l4 : low 69 = 101 := by decide +kernel
      unfold expBad
      rcases hp with ⟨h1, h2⟩ | ⟨h1, h2⟩ | ⟨h1, _⟩
      · rcases hl with ⟨_, rfl | rfl⟩ | ⟨h3, _⟩
        · rw [l1, h2]; decide
        · rw [l2, h2]; decide
        · rw [h1] at h3; cases h3
      · rcases hl with ⟨h3, _⟩ | ⟨_, rfl | rfl⟩
        · rw [h1] at h3; cases h3
        · rw [l3]; rcases h2 with h2 | h2 <;> rw [h2] <;> decide
        · rw [l4]; rcases h2 with h2 | h2 <;> rw [h2] <;> decide
      · cases h1
    have hE : isExp l n = true := by unfold isExp; rw [hd1]; simpa using hne
    have hL : nLet l n = { n with k := n.k + 1, kind := 1, ok := true } := by
      unfold nLet; rw [hd1]; simp only [hbad, hok]; simp
    have hd2 : l.drop (n.k + 1) = sg ++ (ds ++ (imL im ++ more)) := by
      rw [← List.drop_drop, hd1]; rfl
    have hds0 : ds ≠ [] := by intro e; rw [e] at had; cases had
    have hS : nSign l (nLet l n) = { n with k := n.k + 1 + sg.length, kind := 1, ok := true } := by
      rw [hL]; unfold nSign
      simp only [hd2]
      rcases hsg with rfl | rfl | rfl
      · cases ds with
        | nil => exact absurd rfl hds0
        | cons y t =>
          have hy : y = 95 ∨ dgt false y := hds y (by simp)
          have hy2 : ¬ (y = 43 ∨ y = 45) := by
            rcases hy with rfl | hy | hy
            · decide
            · omega
            · cases hy.1
          simp only [List.nil_append, List.cons_append]
          rw [if_neg hy2]; rfl
      · rfl
      · rfl
    have hd3 : l.drop (n.k + 1 + sg.length) = ds ++ (imL im ++ more) := by
      rw [← List.drop_drop, hd2, List.drop_left]
    obtain ⟨inv', e1, -, -⟩ := digR_all false 10 (im_stop false im hm) ds hds (q + (n.k + 1 + sg.length)) false false n.inv
    have hX : nExp q l n = { n with k := n.k + 1 + sg.length + ds.length, kind := 1, ok := true, hd := true, hs := n.hs || anyL ds } := by
      unfold nExp; rw [if_pos hE, hS]; unfold nExpD
      simp only [hd3, e1, had]; simp
    have hSt : RdSt l (d ++ (c :: (sg ++ ds))) (imL im ++ more) (nExp q l n) := by
      refine ⟨?_, ?_⟩
      · rw [h.1]; simp [exL]
      · rw [hX]; simp only [List.length_append, List.length_cons]; rw [h.2]; omega
    rw [st_imag (im := im) hSt hm, hX]
    refine ⟨by simp only [exL, List.length_append, List.length_cons]; rw [h.2]; omega, by simp, rfl, fun e => by cases e⟩

def FrOk (hex : Bool) : Option (List Nat) → Prop
  | none => True
  | some f => Cls hex f
def anyF : Option (List Nat) → Bool
  | none => false
  | some f => anyD f
/-- What is read behind the whole digits. -/
theorem num_rest {q : Nat} {l d : List Nat} {n : NS} {hex : Bool} {f : Option (List Nat)} {x : Option (Nat × List Nat × List Nat)} {im : Bool} {more : List Nat} (h : RdSt l d (ptL f ++ (exL x ++ (imL im ++ more))) n) (hm : Behd more) (hf : FrOk hex f) (hx : ExOk hex x)
    (hok : n.ok = true) (hhd : (n.hd || anyF f) = true) (hsn : n.seen = false) (hk : n.kind = 0) (hb : hex = decide (n.base = 16))
    (hp : (hex = true ∧ n.pre = 120) ∨ (hex = false ∧ (n.pre = 0 ∨ n.pre = 48)) ∨ (x = none ∧ f = none ∧ n.pre ≠ 120)) (h120 : n.pre = 120 → f.isSome = true → x.isSome = true) :
    ∃ n2, nImag l (nExp q l (nNo (nFrac q l (nPt l n)))) = n2 ∧ n2.k = d.length + (ptL f ++ (exL x ++ imL im)).length ∧ n2.kind = (if im = true then 2 else if f.isSome = true ∨ x.isSome = true then 1 else 0) ∧ n2.ok = true ∧ (f = none → x = none → n2.inv = n.inv) := by
  cases f with
  | none =>
    have hnp : nPt l n = n := by
      unfold nPt
      rw [h.drop, if_neg]
      intro e
      have hs := ex_stop hex hx im hm
      simp only [ptL, List.nil_append] at e
      cases x with
      | some x =>
        obtain ⟨c, sg, ds⟩ := x
        have : c = 46 := by simpa [exL] using e
        rcases hx.1 with ⟨_, h1 | h1⟩ | ⟨_, h1 | h1⟩ <;> omega
      | none =>
        cases im
        · cases more with
          | nil => cases e
          | cons c t =>
            have : c = 46 := by simpa [imL, exL] using e
            rcases hm c t rfl with h | h | h | h | h | h | h | h <;> omega
        · simp [imL, exL] at e
    have hnf : nFrac q l n = n := by unfold nFrac; rw [hsn]; simp
    rw [hnp, hnf]
    obtain ⟨n2, e1, e2, e3, e4, e5⟩ := num_tail (q := q) (n := n) (hex := hex) (x := x) (im := im) h hm hx hok (by simpa [anyF] using hhd) (hp.imp id fun h => h.imp id fun h => ⟨h.1, hk⟩) (fun h1 h2 => by rw [hk] at h2; cases h2)
    refine ⟨n2, e1, by rw [e2]; simp [ptL], ?_, e4, fun _ => e5⟩
    rw [e3, hk]; simp
  | some f =>
    have hd1 : l.drop n.k = 46 :: (f ++ (exL x ++ (imL im ++ more))) := by rw [h.drop]; simp [ptL]
    have hpt : nPt l n = { n with k := n.k + 1, seen := true, ok := true } := by
      unfold nPt
      rw [hd1, if_pos (show (46 :: (f ++ (exL x ++ (imL im ++ more)))).head? = some 46 from rfl)]
      congr 1
      rcases hp with ⟨_, h1⟩ | ⟨_, h1 | h1⟩ | ⟨_, h1, _⟩
      · rw [h1]; decide
      · rw [h1]; decide
      · rw [h1]; decide
      · cases h1
    have hSt : RdSt l (d ++ [46]) (f ++ (exL x ++ (imL im ++ more))) { n with k := n.k + 1, seen := true, ok := true, kind := 1 } := ⟨by rw [h.1]; simp [ptL], by simp [h.2]⟩
    obtain ⟨inv', e, hSt2, -, -⟩ := st_dig (q := q) hSt (by show Cls (decide (n.base = 16)) f; rw [← hb]; exact hf) (by show Stop (decide (n.base = 16)) _; rw [← hb]; exact ex_stop hex hx im hm)
    have hnf : nFrac q l (nPt l n) = nDig q l { n with k := n.k + 1, seen := true, ok := true, kind := 1 } := by
      rw [hpt]; unfold nFrac; rw [if_pos rfl]
    rw [hnf]
    obtain ⟨n2, e1, e2, e3, e4, e5⟩ := num_tail (q := q) (hex := hex) (x := x) (im := im) hSt2 hm hx (by rw [e]) (by rw [e]; simpa [anyF] using hhd) (by
      rw [e]
      rcases hp with h | h | ⟨_, h, _⟩
      · exact .inl h
      · exact .inr (.inl h)
      · cases h) (fun h1 h2 => by rw [e] at h1; exact h120 h1 rfl)
    refine ⟨n2, e1, by rw [e2]; simp [ptL]; omega, ?_, e4, fun h => by cases h⟩
    rw [e3, e]; simp

/-- A group of digits: low lines stand singly, none at its end. -/
structure Grp (P : Nat → Prop) (a : List Nat) : Prop where
  ne : a ≠ []
  cls : ∀ c ∈ a, c = 95 ∨ P c
  last : ∀ b, a ≠ b ++ [95]
  dbl : ∀ b c, a ≠ b ++ 95 :: 95 :: c
/-- Low lines stand between digits: p tells whether a digit, or the base, stands ahead. -/
def partR (hex : Bool) : Bool → List Nat → Bool
  | _, [] => true
  | p, c :: l => if c = 95 then p && (match l with | d :: _ => decide (dgt hex d) | [] => false) && partR hex false l else partR hex (decide (dgt hex c)) l
theorem partR_grp {hex : Bool} {P : Nat → Prop} (hP : ∀ c, P c → dgt hex c) (rest : List Nat) : ∀ (a : List Nat) (p : Bool), Grp P a → (a.head? = some 95 → p = true) → partR hex p (a ++ rest) = partR hex true rest := by
  have h95 : ¬ dgt hex 95 := by cases hex <;> decide +kernel
  intro a
  induction a with
  | nil => intro p h; exact absurd rfl h.ne
  | cons c a ih =>
    intro p h hp
    cases a with
    | nil =>
      have hc : c ≠ 95 := fun e => h.last [] (by rw [e]; rfl)
      have hd : dgt hex c := hP c ((h.cls c (by simp)).resolve_left hc)
      simp only [List.cons_append, List.nil_append]
      conv => lhs; unfold partR
      rw [if_neg hc, decide_eq_true hd]
    | cons d a =>
      have hg : Grp P (d :: a) := ⟨by simp, fun x hx => h.cls x (by simp [hx]), fun b e => h.last (c :: b) (by rw [e]; rfl), fun b e2 e => h.dbl (c :: b) e2 (by rw [e]; rfl)⟩
      by_cases hc : c = 95
      · have hd : d ≠ 95 := fun e => h.dbl [] a (by rw [hc, e]; rfl)
        have hdd : dgt hex d := hP d ((h.cls d (by simp)).resolve_left hd)
        rw [List.cons_append]
        conv => lhs; unfold partR
        rw [if_pos hc, hp (by rw [hc]; rfl), ih false hg (fun e => absurd (by simpa using e) hd)]
        simp [hdd]
      · have hdd : dgt hex c := hP c ((h.cls c (by simp)).resolve_left hc)
        rw [List.cons_append]
        conv => lhs; unfold partR
        rw [if_neg hc, decide_eq_true hdd, ih true hg (fun _ => rfl)]
theorem partR_one {hex : Bool} {p : Bool} {c : Nat} (h : c ≠ 95) (l : List Nat) : partR hex p (c :: l) = partR hex (decide (dgt hex c)) l := by
  conv => lhs; unfold partR
  rw [if_neg h]
theorem grp_any {P : Nat → Prop} {a : List Nat} (h : Grp P a) : anyD a = true := by
  cases ha : anyD a with
  | true => rfl
  | false =>
    have h1 : ∀ c ∈ a, c = 95 := by simpa [anyD] using ha
    rcases List.eq_nil_or_concat a with h2 | ⟨b, c, h2⟩
    · exact absurd h2 h.ne
    · have := h1 c (by rw [h2]; simp)
      exact absurd (by rw [h2, this]; simp) (h.last b)

/-- The digits of a base. -/
def dOf (m : Nat) (c : Nat) : Prop := if m = 16 then dgt true c else 48 ≤ c ∧ c < 48 + m
/-- A run of digits: no low line ahead of them. -/
def Run (m : Nat) (a : List Nat) : Prop := Grp (dOf m) a ∧ a.head? ≠ some 95
theorem dOf_dgt {m c : Nat} (hex : Bool) (hm : m ≤ 10 ∨ (m = 16 ∧ hex = true)) (h : dOf m c) : dgt hex c := by
  unfold dOf at h
  rcases hm with hm | ⟨rfl, rfl⟩
  · rw [if_neg (by omega)] at h; exact .inl ⟨by omega, by omega⟩
  · rw [if_pos rfl] at h; exact h

/-- The integer literals. -/
inductive IntL : List Nat → Prop
  | dec (a : List Nat) (h : Run 10 a) (h0 : a.length = 1 ∨ a.head? ≠ some 48) : IntL a
  | oct (g : List Nat) (h : Grp (dOf 8) g) : IntL (48 :: g)
  | pre (m x : Nat) (g : List Nat) (h : Grp (dOf m) g) (hx : (m = 16 ∧ (x = 120 ∨ x = 88)) ∨ (m = 8 ∧ (x = 111 ∨ x = 79)) ∨ (m = 2 ∧ (x = 98 ∨ x = 66))) : IntL (48 :: x :: g)
def FrIs (m : Nat) : Option (List Nat) → Prop
  | none => True
  | some f => f = [] ∨ Run m f
def ExIs (hex : Bool) : Option (Nat × List Nat × List Nat) → Prop
  | none => True
  | some (c, sg, ds) => LetOk hex c ∧ (sg = [] ∨ sg = [43] ∨ sg = [45]) ∧ Run 10 ds
/-- The floating-point literals. -/
inductive FloatL : List Nat → Prop
  | dec (w : List Nat) (f : Option (List Nat)) (x : Option (Nat × List Nat × List Nat)) (hw : w = [] ∨ Run 10 w) (hf : FrIs 10 f) (hx : ExIs false x) (h1 : f.isSome = true ∨ x.isSome = true) (h2 : w ≠ [] ∨ ∃ a, f = some a ∧ a ≠ []) : FloatL (w ++ (ptL f ++ exL x))
  | hex (y : Nat) (w : List Nat) (f : Option (List Nat)) (x : Nat × List Nat × List Nat) (hy : y = 120 ∨ y = 88) (hw : w = [] ∨ Grp (dOf 16) w) (hf : FrIs 16 f) (hx : ExIs true (some x)) (h2 : w ≠ [] ∨ ∃ a, f = some a ∧ a ≠ []) : FloatL (48 :: y :: (w ++ (ptL f ++ exL (some x))))
/-- The number literals, with their kinds. -/
def KindL (k : Nat) (l : List Nat) : Prop := (k = 0 ∧ IntL l) ∨ (k = 1 ∧ FloatL l) ∨ (k = 2 ∧ ∃ a, l = a ++ [105] ∧ (IntL a ∨ FloatL a ∨ Run 10 a))

/-- A literal's parts: whole digits (with their base), fraction, exponent, the mark of an imaginary number. -/
inductive Lit : List Nat → Option (List Nat) → Option (Nat × List Nat × List Nat) → Bool → Prop
  | dec (w f x im) (hw : w = [] ∨ Run 10 w) (hf : FrIs 10 f) (hx : ExIs false x) (h2 : w ≠ [] ∨ ∃ a, f = some a ∧ a ≠ []) (hi : (f = none ∧ x = none ∧ im = false) → w.length = 1 ∨ w.head? ≠ some 48) : Lit w f x im
  | oct (g im) (h : Grp (dOf 8) g) : Lit (48 :: g) none none im
  | hex (y w f x im) (hy : y = 120 ∨ y = 88) (hw : w = [] ∨ Grp (dOf 16) w) (hf : FrIs 16 f) (hx : ExIs true x) (h2 : w ≠ [] ∨ ∃ a, f = some a ∧ a ≠ []) (h3 : f.isSome = true → x.isSome = true) : Lit (48 :: y :: w) f x im
  | pre (m y g im) (h : Grp (dOf m) g) (hx : (m = 8 ∧ (y = 111 ∨ y = 79)) ∨ (m = 2 ∧ (y = 98 ∨ y = 66))) : Lit (48 :: y :: g) none none im
def litKind (f : Option (List Nat)) (x : Option (Nat × List Nat × List Nat)) (im : Bool) : Nat := if im = true then 2 else if f.isSome = true ∨ x.isSome = true then 1 else 0
theorem int_lit {l : List Nat} (h : IntL l) (im : Bool) : Lit l none none im := by
  cases h with
  | dec a h h0 => exact .dec _ none none im (.inr h) trivial trivial (.inl h.1.ne) (fun _ => h0)
  | oct g h => exact .oct g im h
  | pre m x g h hx =>
    rcases hx with ⟨rfl, hx⟩ | hx
    · exact .hex x g none none im hx (.inr h) trivial trivial (.inl h.ne) (fun h => by cases h)
    · exact .pre m x g im h hx
theorem kind_lit {k : Nat} {l : List Nat} (h : KindL k l) : ∃ w f x im, Lit w f x im ∧ l = w ++ (ptL f ++ (exL x ++ imL im)) ∧ k = litKind f x im := by
  have fl : ∀ {a : List Nat} (im : Bool), FloatL a → ∃ w f x, Lit w f x im ∧ a ++ imL im = w ++ (ptL f ++ (exL x ++ imL im)) ∧ (f.isSome = true ∨ x.isSome = true) := by
    intro a im h
    cases h with
    | dec w f x hw hf hx h1 h2 => exact ⟨w, f, x, .dec w f x im hw hf hx h2 (fun h => by rcases h with ⟨rfl, rfl, _⟩; rcases h1 with h | h <;> cases h), by simp, h1⟩
    | hex y w f x hy hw hf hx h2 => exact ⟨48 :: y :: w, f, some x, .hex y w f (some x) im hy hw hf hx h2 (fun _ => rfl), by simp, .inr rfl⟩
  rcases h with ⟨rfl, h⟩ | ⟨rfl, h⟩ | ⟨rfl, a, rfl, h | h | h⟩
  · exact ⟨l, none, none, false, int_lit h false, by simp [ptL, exL, imL], rfl⟩
  · obtain ⟨w, f, x, h1, h2, h3⟩ := fl false h
    exact ⟨w, f, x, false, h1, by simpa [imL] using h2, by unfold litKind; rw [if_neg (by decide), if_pos h3]⟩
  · exact ⟨a, none, none, true, int_lit h true, by simp [ptL, exL, imL], rfl⟩
  · obtain ⟨w, f, x, h1, h2, h3⟩ := fl true h
    exact ⟨w, f, x, true, h1, by simpa [imL] using h2, rfl⟩
  · exact ⟨a, none, none, true, .dec a none none true (.inr h) trivial trivial (.inl h.1.ne) (fun h => by cases h.2.2), by simp [ptL, exL, imL], rfl⟩

theorem grp_cls {m : Nat} {hex : Bool} {a : List Nat} (hm : m ≤ 10 ∨ (m = 16 ∧ hex = true)) (h : Grp (dOf m) a) : Cls hex a := fun c hc => (h.cls c hc).imp id (dOf_dgt hex hm)
theorem exIs_ok {hex : Bool} {x : Option (Nat × List Nat × List Nat)} (h : ExIs hex x) : ExOk hex x := by
  cases x with
  | none => trivial
  | some x =>
    obtain ⟨c, sg, ds⟩ := x
    exact ⟨h.1, h.2.1, grp_cls (.inl (by omega)) h.2.2.1, grp_any h.2.2.1, h.2.2.2⟩
theorem frIs_ok {m : Nat} {hex : Bool} (hm : m ≤ 10 ∨ (m = 16 ∧ hex = true)) {f : Option (List Nat)} (h : FrIs m f) : FrOk hex f := by
  cases f with
  | none => trivial
  | some f =>
    rcases h with rfl | h
    · intro c hc; cases hc
    · exact grp_cls hm h.1
theorem frIs_any {m : Nat} {f : Option (List Nat)} (h : FrIs m f) (h2 : ∃ a, f = some a ∧ a ≠ []) : anyF f = true := by
  obtain ⟨a, rfl, ha⟩ := h2
  exact grp_any (h.resolve_left ha).1

/-- What a reader of numbers gives at a literal: it stands at its end, its kind, no fault. -/
def NumOk (n : NS) (k kind : Nat) : Prop := n.k = k ∧ n.kind = kind ∧ n.ok = true ∧ (kind = 0 → n.inv < 0)
theorem num_lit {q : Nat} {w : List Nat} {f : Option (List Nat)} {x : Option (Nat × List Nat × List Nat)} {im : Bool} {more : List Nat} (h : Lit w f x im) (hw : w ≠ []) (hm : Behd more) :
    NumOk (numF q false (w ++ (ptL f ++ (exL x ++ (imL im ++ more))))) (w ++ (ptL f ++ (exL x ++ imL im))).length (litKind f x im) := by
  obtain ⟨l, hl⟩ : ∃ l, l = w ++ (ptL f ++ (exL x ++ (imL im ++ more))) := ⟨_, rfl⟩
  rw [← hl]
  unfold numF nStart
  rw [if_neg (by decide)]
  -- the whole digits, then the rest
  have fin : ∀ (hex : Bool) (d a : List Nat) (n : NS), w = d ++ a → nPre l = n → n.k = d.length → n.kind = 0 → n.ok = true → n.seen = false → n.inv = -1 → hex = decide (n.base = 16) → Cls hex a → (n.hd || anyD a || anyF f) = true → FrOk hex f → ExOk hex x →
      ((hex = true ∧ n.pre = 120) ∨ (hex = false ∧ (n.pre = 0 ∨ n.pre = 48)) ∨ (x = none ∧ f = none ∧ n.pre ≠ 120)) → (n.pre = 120 → f.isSome = true → x.isSome = true) → (litKind f x im = 0 → n.base = 16 ∨ ∀ c ∈ a, c = 95 ∨ c < 48 + n.base) →
      NumOk (nImag l (nExp q l (nNo (nFrac q l (nPt l (nDig q l (nPre l))))))) (w ++ (ptL f ++ (exL x ++ imL im))).length (litKind f x im) := by
    intro hex d a n hda hn hk hkd hok hsn hinv hb ha hhd hf hx hp h120 hv
    rw [hn]
    have hSt : RdSt l d (a ++ (ptL f ++ (exL x ++ (imL im ++ more)))) n := ⟨by rw [hl, hda]; simp, hk⟩
    obtain ⟨inv', e, hS2, hi, -⟩ := st_dig (q := q) hSt (by rw [← hb]; exact ha) (by rw [← hb]; exact pt_stop hex f hx im hm)
    obtain ⟨n2, e1, e2, e3, e4, e5⟩ := num_rest (q := q) (hex := hex) (x := x) (im := im) hS2 hm hf hx (by rw [e]; exact hok) (by rw [e]; exact hhd) (by rw [e]; exact hsn) (by rw [e]; exact hkd) (by rw [e]; exact hb) (by rw [e]; exact hp) (by rw [e]; exact h120)
    rw [e1]
    refine ⟨by rw [e2, hda]; simp only [List.length_append], e3, e4, fun h0 => ?_⟩
    have hfx : f = none ∧ x = none := by
      unfold litKind at h0
      split at h0
      · cases h0
      · split at h0
        · cases h0
        · rename_i h1
          cases f <;> cases x <;> simp_all
    rw [e5 hfx.1 hfx.2, e]
    show inv' < 0
    rw [hi (hv h0), hinv]; decide
  cases h with
  | dec w f x im hw0 hf hx h2 hi =>
    have hr := hw0.resolve_left hw
    cases w with
    | nil => exact absurd rfl hw
    | cons c w =>
      have hcls : Cls false (c :: w) := grp_cls (.inl (by omega)) hr.1
      have hc95 : c ≠ 95 := fun e => hr.2 (by rw [e]; rfl)
      by_cases hc : c = 48
      · subst hc
        have hpre : nPre l = ⟨1, 0, 8, 48, true, false, -1, true, false⟩ := by
          rw [hl]
          have hst := pt_stop false f (exIs_ok hx) im hm
          cases w with
          | nil =>
            simp only [List.cons_append, List.nil_append]
            cases hr2 : ptL f ++ (exL x ++ (imL im ++ more)) with
            | nil => rfl
            | cons y t =>
              unfold nPre
              have : low y ≠ 120 ∧ low y ≠ 111 ∧ low y ≠ 98 := by
                cases f with
                | some f => injection hr2 with h1 _; subst h1; decide +kernel
                | none =>
                  cases x with
                  | some x =>
                    obtain ⟨c, sg, ds⟩ := x
                    injection hr2 with h1 _
                    subst h1
                    rcases hx.1 with ⟨h, _⟩ | ⟨_, rfl | rfl⟩
                    · cases h
                    · decide +kernel
                    · decide +kernel
                  | none =>
                    cases im
                    · rcases hm y t hr2 with rfl | rfl | rfl | rfl | rfl | rfl | rfl | rfl <;> decide +kernel
                    · injection hr2 with h1 _; subst h1; decide +kernel
              simp only [this.1, this.2.1, this.2.2, if_false]
          | cons y t =>
            have hy : y = 95 ∨ dgt false y := hcls y (by simp)
            have : low y ≠ 120 ∧ low y ≠ 111 ∧ low y ≠ 98 := by
              rcases hy with rfl | hy | hy
              · decide +kernel
              · have := low_small ⟨y, by omega⟩
                simp only at this
                rw [this]
                repeat' split
                all_goals omega
              · cases hy.1
            simp only [List.cons_append]
            unfold nPre
            simp only [this.1, this.2.1, this.2.2, if_false]
        refine fin false [48] w _ rfl hpre rfl rfl rfl rfl rfl rfl (fun x hx => hcls x (by simp [hx])) rfl (frIs_ok (.inl (by omega)) hf) (exIs_ok hx) (.inr (.inl ⟨rfl, .inr rfl⟩)) (fun h => by cases h) ?_
        intro h0
        right
        have : w = [] := by
          have hfx : f = none ∧ x = none ∧ im = false := by
            unfold litKind at h0
            split at h0
            · cases h0
            · split at h0
              · cases h0
              · rename_i h1 h2
                cases f <;> cases x <;> cases im <;> simp_all
          rcases hi hfx with h | h
          · simpa using h
          · exact absurd rfl h
        subst this
        intro c hc; cases hc
      · have hpre : nPre l = ⟨0, 0, 10, 0, false, false, -1, true, false⟩ := by
          rw [hl, List.cons_append]
          unfold nPre; split
          · rename_i h1; injection h1 with h1 _; exact absurd h1 hc
          · rename_i h1; injection h1 with h1 _; exact absurd h1 hc
          · rfl
        refine fin false [] (c :: w) _ rfl hpre rfl rfl rfl rfl rfl rfl hcls (by rw [grp_any hr.1]; rfl) (frIs_ok (.inl (by omega)) hf) (exIs_ok hx) (.inr (.inl ⟨rfl, .inl rfl⟩)) (fun h => by cases h) (fun _ => .inr fun c hc => ?_)
        rcases hcls c hc with h | h | h
        · exact .inl h
        · right; show c < 58; omega
        · cases h.1
  | oct g im h =>
    have hpre : nPre l = ⟨1, 0, 8, 48, true, false, -1, true, false⟩ := by
      rw [hl]
      cases g with
      | nil => exact absurd rfl h.ne
      | cons y t =>
        have hy : y = 95 ∨ dOf 8 y := h.cls y (by simp)
        have : low y ≠ 120 ∧ low y ≠ 111 ∧ low y ≠ 98 := by
          rcases hy with rfl | hy
          · decide +kernel
          · unfold dOf at hy
            rw [if_neg (by decide)] at hy
            have := low_small ⟨y, by omega⟩
            simp only at this
            rw [this]
            repeat' split
            all_goals omega
        simp only [List.cons_append]
        unfold nPre
        simp only [this.1, this.2.1, this.2.2, if_false]
    refine fin false [48] g _ rfl hpre rfl rfl rfl rfl rfl rfl (grp_cls (.inl (by omega)) h) rfl trivial trivial (.inr (.inl ⟨rfl, .inr rfl⟩)) (fun h => by cases h) (fun _ => .inr fun c hc => ?_)
    rcases h.cls c hc with h | h
    · exact .inl h
    · unfold dOf at h
      rw [if_neg (by decide)] at h
      exact .inr h.2
  | hex y w f x im hy hw0 hf hx h2 h3 =>
    have hpre : nPre l = ⟨2, 0, 16, 120, false, false, -1, true, false⟩ := by
      rw [hl]; simp only [List.cons_append]
      unfold nPre
      have : low y = 120 := by rcases hy with rfl | rfl <;> decide +kernel
      simp only [this, if_true]
    refine fin true [48, y] w _ rfl hpre rfl rfl rfl rfl rfl rfl ?_ ?_ (frIs_ok (.inr ⟨rfl, rfl⟩) hf) (exIs_ok hx) (.inl ⟨rfl, rfl⟩) (fun _ => h3) (fun _ => .inl rfl)
    · rcases hw0 with rfl | h
      · intro c hc; cases hc
      · exact grp_cls (.inr ⟨rfl, rfl⟩) h
    · show (false || anyD w || anyF f) = true
      rcases hw0 with rfl | h
      · rw [frIs_any hf (h2.resolve_left (by simp))]; simp
      · rw [grp_any h]; rfl
  | pre m y g im h hx =>
    have hv : m ≤ 10 := by omega
    have hcls : Cls false g := grp_cls (.inl hv) h
    have hval : ∀ c ∈ g, c = 95 ∨ c < 48 + m := fun c hc => (h.cls c hc).imp id fun h => by
      unfold dOf at h
      rw [if_neg (by omega)] at h
      exact h.2
    rcases hx with ⟨rfl, hy⟩ | ⟨rfl, hy⟩
    · have hpre : nPre l = ⟨2, 0, 8, 111, false, false, -1, true, false⟩ := by
        rw [hl]; simp only [List.cons_append]
        unfold nPre
        have : low y = 111 := by rcases hy with rfl | rfl <;> decide +kernel
        simp only [this]; rfl
      exact fin false [48, y] g _ rfl hpre rfl rfl rfl rfl rfl rfl hcls (by rw [grp_any h]; rfl) trivial trivial (.inr (.inr ⟨rfl, rfl, by decide⟩)) (fun h => by cases h) (fun _ => .inr hval)
    · have hpre : nPre l = ⟨2, 0, 2, 98, false, false, -1, true, false⟩ := by
        rw [hl]; simp only [List.cons_append]
        unfold nPre
        have : low y = 98 := by rcases hy with rfl | rfl <;> decide +kernel
        simp only [this]; rfl
      exact fin false [48, y] g _ rfl hpre rfl rfl rfl rfl rfl rfl hcls (by rw [grp_any h]; rfl) trivial trivial (.inr (.inr ⟨rfl, rfl, by decide⟩)) (fun h => by cases h) (fun _ => .inr hval)
/-- A literal that begins with a point. -/
theorem num_lit_pt {q : Nat} {f : List Nat} {x : Option (Nat × List Nat × List Nat)} {im : Bool} {more : List Nat} (hf : Run 10 f) (hx : ExIs false x) (hm : Behd more) :
    NumOk (numF q true (f ++ (exL x ++ (imL im ++ more)))) (f ++ (exL x ++ imL im)).length (litKind (some f) x im) := by
  obtain ⟨l, hl⟩ : ∃ l, l = f ++ (exL x ++ (imL im ++ more)) := ⟨_, rfl⟩
  rw [← hl]
  unfold numF nStart
  rw [if_pos rfl]
  have hSt : RdSt l [] (f ++ (exL x ++ (imL im ++ more))) ⟨0, 1, 10, 0, false, false, -1, true, true⟩ := ⟨hl, rfl⟩
  obtain ⟨inv', e, hS2, -, -⟩ := st_dig (q := q) hSt (grp_cls (.inl (by omega)) hf.1) (ex_stop _ (exIs_ok hx) im hm)
  have hnf : nFrac q l ⟨0, 0, 10, 0, false, false, -1, true, true⟩ = nDig q l ⟨0, 1, 10, 0, false, false, -1, true, true⟩ := by unfold nFrac; rw [if_pos rfl]
  rw [hnf]
  obtain ⟨n2, e1, e2, e3, e4, e5⟩ := num_tail (q := q) (hex := false) (x := x) (im := im) hS2 hm (exIs_ok hx) (by rw [e]) (by rw [e]; simpa using grp_any hf.1) (by rw [e]; exact .inr (.inl ⟨rfl, .inl rfl⟩)) (fun h => by rw [e] at h; cases h)
  rw [e1]
  refine ⟨by rw [e2]; simp only [List.length_append, List.length_nil]; omega, ?_, e4, fun h => ?_⟩
  · rw [e3, e]; unfold litKind; simp
  · unfold litKind at h; simp at h; split at h <;> cases h

/-- What stands second in a literal that begins with a nought and no base. -/
theorem lit_second {w : List Nat} {f : Option (List Nat)} {x : Option (Nat × List Nat × List Nat)} {im : Bool} {more : List Nat} (hm : Behd more) (hx : ExIs false x) (hw : ∃ t, w = 48 :: t ∧ ∀ y ∈ t, y = 95 ∨ dgt false y) {y : Nat} {t : List Nat} (e : w ++ (ptL f ++ (exL x ++ (imL im ++ more))) = 48 :: y :: t) : low y ≠ 120 ∧ low y ≠ 111 ∧ low y ≠ 98 := by
  obtain ⟨w', rfl, hw⟩ := hw
  cases w' with
  | nil =>
    simp only [List.cons_append, List.nil_append] at e
    injection e with _ hr2
    cases f with
    | some f => injection hr2 with h1 _; subst h1; decide +kernel
    | none =>
      cases x with
      | some x =>
        obtain ⟨c, sg, ds⟩ := x
        injection hr2 with h1 _
        subst h1
        rcases hx.1 with ⟨h, _⟩ | ⟨_, rfl | rfl⟩
        · cases h
        · decide +kernel
        · decide +kernel
      | none =>
        cases im
        · rcases hm y t hr2 with rfl | rfl | rfl | rfl | rfl | rfl | rfl | rfl <;> decide +kernel
        · injection hr2 with h1 _; subst h1; decide +kernel
  | cons z t' =>
    simp only [List.cons_append] at e
    injection e with _ e
    injection e with e _
    subst e
    rcases hw z (by simp) with rfl | hy | hy
    · decide +kernel
    · have := low_small ⟨z, by omega⟩
      simp only at this
      rw [this]
      repeat' split
      all_goals omega
    · cases hy.1

theorem part_tail {hex : Bool} {x : Option (Nat × List Nat × List Nat)} (hx : ExIs hex x) (im : Bool) (p : Bool) : partR hex p (exL x ++ imL im) = true := by
  have hi : ∀ q, partR hex q (imL im) = true := by
    intro q
    cases im
    · rfl
    · show partR hex q [105] = true
      rw [partR_one (by decide)]; rfl
  cases x with
  | none => exact hi p
  | some x =>
    obtain ⟨c, sg, ds⟩ := x
    obtain ⟨h1, h2, h3⟩ := hx
    have hc : c ≠ 95 := by rcases h1 with ⟨_, h | h⟩ | ⟨_, h | h⟩ <;> omega
    have hd : ∀ q, partR hex q (ds ++ imL im) = true := fun q => by
      rw [partR_grp (hex := hex) (fun c hc => dOf_dgt hex (.inl (by omega)) hc) (imL im) ds q h3.1 (fun e => absurd e h3.2)]
      exact hi true
    simp only [exL, List.cons_append, List.append_assoc]
    rw [partR_one hc]
    rcases h2 with rfl | rfl | rfl
    · exact hd _
    · rw [List.cons_append, List.nil_append, partR_one (by decide)]; exact hd _
    · rw [List.cons_append, List.nil_append, partR_one (by decide)]; exact hd _
theorem part_rest {m : Nat} {hex : Bool} (hm : m ≤ 10 ∨ (m = 16 ∧ hex = true)) {f : Option (List Nat)} (hf : FrIs m f) {x : Option (Nat × List Nat × List Nat)} (hx : ExIs hex x) (im : Bool) (p : Bool) : partR hex p (ptL f ++ (exL x ++ imL im)) = true := by
  cases f with
  | none => exact part_tail hx im p
  | some f =>
    simp only [ptL, List.cons_append]
    rw [partR_one (by decide)]
    rcases hf with rfl | h
    · exact part_tail hx im _
    · rw [partR_grp (hex := hex) (fun c hc => dOf_dgt hex hm hc) _ f _ h.1 (fun e => absurd e h.2)]
      exact part_tail hx im true

theorem digB_dgt : ∀ (hex : Bool) (n : Fin 128), Sep.digB hex (n.val : Int) = decide (dgt hex n.val) := by decide +kernel
theorem part_go {s : ByteArray} {l : List Nat} (hz : s.size = l.length) (hb : ∀ (j : Nat) (h : j < l.length), Sep.byteAt s j = (l[j] : Int)) (ha : ∀ c ∈ l, c < 128) {hex : Bool} {ahead : Nat} :
    ∀ (r d : List Nat) (p : Bool), l = d ++ r → partR hex p r = true → (p = true → 0 < d.length ∧ (d.length = ahead ∨ (ahead < d.length ∧ Sep.digB hex (Sep.byteAt s (d.length - 1)) = true))) → ahead ≤ d.length →
      ∀ j, d.length ≤ j → j < s.size → Sep.byteAt s j = 95 → Sep.leftOk s hex ahead j ∧ Sep.rightOk s hex j := by
  intro r
  induction r with
  | nil => intro d p e _ _ _ j h1 h2; rw [hz, e] at h2; simp at h2; omega
  | cons c r ih =>
    intro d p e hp hl hah j h1 h2 h95
    have hdl : d.length < l.length := by rw [e]; simp
    have hc : l[d.length] = c := by simp [e]
    have hcb : Sep.byteAt s d.length = (c : Int) := by rw [hb _ hdl, hc]
    have hc128 : c < 128 := ha c (by rw [e]; simp)
    have hdig : ∀ x : Nat, x < 128 → Sep.digB hex (x : Int) = decide (dgt hex x) := fun x hx => digB_dgt hex ⟨x, hx⟩
    unfold partR at hp
    by_cases e95 : c = 95
    · rw [if_pos e95] at hp
      simp only [Bool.and_eq_true] at hp
      obtain ⟨⟨hp1, hp2⟩, hp3⟩ := hp
      by_cases hj : j = d.length
      · subst hj
        refine ⟨hl hp1, ?_⟩
        cases r with
        | nil => cases hp2
        | cons y t =>
          have hlt : d.length + 1 < l.length := by rw [e]; simp
          refine ⟨by omega, ?_⟩
          rw [hb _ hlt]
          have : l[d.length + 1] = y := by simp [e]
          rw [this, hdig y (ha y (by rw [e]; simp))]
          exact hp2
      · exact ih (d ++ [c]) false (by rw [e]; simp) hp3 (fun h => by cases h) (by simp; omega) j (by simp; omega) h2 h95
    · rw [if_neg e95] at hp
      by_cases hj : j = d.length
      · subst hj
        rw [hcb] at h95
        exact absurd (by omega) e95
      · refine ih (d ++ [c]) _ (by rw [e]; simp) hp (fun h => ?_) (by simp; omega) j (by simp; omega) h2 h95
        refine ⟨by simp, .inr ⟨by simp; omega, ?_⟩⟩
        simp only [List.length_append, List.length_cons, List.length_nil, Nat.zero_add, Nat.add_sub_cancel]
        rw [hcb, hdig c hc128]; exact h

/-- A literal's text. -/
def litL (w : List Nat) (f : Option (List Nat)) (x : Option (Nat × List Nat × List Nat)) (im : Bool) : List Nat := w ++ (ptL f ++ (exL x ++ imL im))
theorem lowZ_low (c : Nat) (h : c < 128) : Sep.lowZ (c : Int) = (low c : Int) := (Sep.low_fin ⟨c, by omega⟩).2
theorem lit_parted {w : List Nat} {f : Option (List Nat)} {x : Option (Nat × List Nat × List Nat)} {im : Bool} (h : Lit w f x im) {s : ByteArray} (hz : s.size = (litL w f x im).length) (hb : ∀ (j : Nat) (h : j < (litL w f x im).length), Sep.byteAt s j = ((litL w f x im)[j] : Int)) (ha : ∀ c ∈ litL w f x im, c < 128) :
    Sep.partedTo s (Sep.sepHex s) (Sep.sepSt s) s.size := by
  have go0 : partR false false (litL w f x im) = true → (∀ y t, litL w f x im = 48 :: y :: t → low y ≠ 120 ∧ low y ≠ 111 ∧ low y ≠ 98) → Sep.partedTo s (Sep.sepHex s) (Sep.sepSt s) s.size := by
    intro hp h2
    have hst : ¬ (1 < s.size ∧ Sep.byteAt s 0 = 48 ∧ (Sep.lowZ (Sep.byteAt s 1) = 120 ∨ Sep.lowZ (Sep.byteAt s 1) = 111 ∨ Sep.lowZ (Sep.byteAt s 1) = 98)) := by
      rintro ⟨h3, h4, h5⟩
      revert hb hz ha h2
      cases litL w f x im with
      | nil => intro hz; rw [List.length_nil] at hz; omega
      | cons c l =>
        cases l with
        | nil => intro hz; simp only [List.length_cons, List.length_nil] at hz; omega
        | cons y t =>
          intro hz hb ha h2
          rw [hb 0 (by simp)] at h4
          rw [hb 1 (by simp)] at h5
          simp only [List.getElem_cons_zero, List.getElem_cons_succ] at h4 h5
          have hy := ha y (by simp)
          rw [lowZ_low y hy] at h5
          have := h2 y t (by rw [show c = 48 from by omega])
          omega
    have e1 : Sep.sepSt s = 0 := by unfold Sep.sepSt; rw [if_neg hst]
    have e2 : Sep.sepHex s = false := by
      unfold Sep.sepHex
      exact decide_eq_false fun h => hst ⟨h.1, h.2.1, .inl h.2.2⟩
    rw [e1, e2]
    intro j hj h95
    exact part_go hz hb ha (litL w f x im) [] false rfl hp (fun h => by cases h) (by simp) j (by simp) hj h95
  have go2 : ∀ (hex : Bool) (y : Nat) (r : List Nat), litL w f x im = 48 :: y :: r → (y ≠ 95 ∧ (low y = 120 ∨ low y = 111 ∨ low y = 98)) → hex = decide (low y = 120) → partR hex true r = true → Sep.partedTo s (Sep.sepHex s) (Sep.sepSt s) s.size := by
    intro hex y r e hy hh hp
    have h0 : Sep.byteAt s 0 = 48 := by rw [hb 0 (by rw [e]; simp)]; simp [e]
    have h1 : Sep.byteAt s 1 = (y : Int) := by rw [hb 1 (by rw [e]; simp)]; simp [e]
    have hy8 := ha y (by rw [e]; simp)
    have hz2 : 1 < s.size := by rw [hz, e]; simp
    have e1 : Sep.sepSt s = 2 := by
      unfold Sep.sepSt
      rw [if_pos ⟨hz2, h0, by rw [h1, lowZ_low y hy8]; omega⟩]
    have e2 : Sep.sepHex s = hex := by
      unfold Sep.sepHex
      rw [h0, h1, lowZ_low y hy8, hh]
      simp [hz2]; omega
    rw [e1, e2]
    intro j hj h95
    by_cases hj2 : j < 2
    · rcases (by omega : j = 0 ∨ j = 1) with rfl | rfl
      · rw [h0] at h95; simp at h95
      · rw [h1] at h95; omega
    · exact part_go hz hb ha r [48, y] true e hp (fun _ => ⟨by simp, .inl rfl⟩) (by simp) j (by simp; omega) hj h95
  cases h with
  | dec w f x im hw hf hx h2 hi =>
    refine go0 ?_ ?_
    · unfold litL
      rcases hw with rfl | hw
      · exact part_rest (.inl (by omega)) hf hx im _
      · rw [partR_grp (hex := false) (fun c hc => dOf_dgt false (.inl (by omega)) hc) _ w _ hw.1 (fun e => absurd e hw.2)]
        exact part_rest (.inl (by omega)) hf hx im _
    · intro y t e
      rcases hw with rfl | hw
      · unfold litL at e
        cases f with
        | none => rcases h2 with h | ⟨a, h, _⟩ <;> simp at h
        | some f => simp only [ptL, List.nil_append, List.cons_append] at e; injection e with e _; cases e
      · refine lit_second (more := []) (fun c t e => by cases e) hx (w := w) (f := f) (im := im) ?_ (by rw [List.append_nil]; exact e)
        cases w with
        | nil => exact absurd rfl hw.1.ne
        | cons c w =>
          have : c = 48 := by unfold litL at e; injection e
          subst this
          exact ⟨w, rfl, fun y hy => grp_cls (.inl (by omega)) hw.1 y (by simp [hy])⟩
  | oct g im h =>
    refine go0 ?_ ?_
    · unfold litL
      rw [List.cons_append, partR_one (by decide), partR_grp (hex := false) (fun c hc => dOf_dgt false (.inl (by omega)) hc) _ g _ h (fun _ => by decide +kernel)]
      exact part_tail (x := none) trivial im _
    · intro y t e
      exact lit_second (more := []) (fun c t e => by cases e) (x := none) trivial (w := 48 :: g) (f := none) (im := im) ⟨g, rfl, fun y hy => grp_cls (.inl (by omega)) h y hy⟩ (by rw [List.append_nil]; exact e)
  | hex y w f x im hy hw hf hx h2 h3 =>
    have hl : low y = 120 ∧ y ≠ 95 := by rcases hy with rfl | rfl <;> decide +kernel
    refine go2 true y _ rfl ⟨hl.2, .inl hl.1⟩ (by rw [hl.1]; rfl) ?_
    show partR true true (w ++ (ptL f ++ (exL x ++ imL im))) = true
    rcases hw with rfl | hw
    · exact part_rest (.inr ⟨rfl, rfl⟩) hf hx im _
    · rw [partR_grp (hex := true) (fun c hc => dOf_dgt true (.inr ⟨rfl, rfl⟩) hc) _ w _ hw (fun _ => rfl)]
      exact part_rest (.inr ⟨rfl, rfl⟩) hf hx im _
  | pre m y g im h hx =>
    have hp : partR false true (g ++ (ptL none ++ (exL none ++ imL im))) = true := by
      rw [partR_grp (hex := false) (fun c hc => dOf_dgt false (.inl (by omega)) hc) _ g _ h (fun _ => rfl)]
      exact part_tail (x := none) trivial im _
    rcases hx with ⟨rfl, hy⟩ | ⟨rfl, hy⟩
    · have hl : low y = 111 ∧ y ≠ 95 := by rcases hy with rfl | rfl <;> decide +kernel
      exact go2 false y _ rfl ⟨hl.2, .inr (.inl hl.1)⟩ (by rw [hl.1]; rfl) hp
    · have hl : low y = 98 ∧ y ≠ 95 := by rcases hy with rfl | rfl <;> decide +kernel
      exact go2 false y _ rfl ⟨hl.2, .inr (.inr hl.1)⟩ (by rw [hl.1]; rfl) hp
end Go.Proofs.YtnehkpoggkfikaaDoor

namespace Go.Proofs.YtnehkpoggkfikaaDoor
open Go.RowKit
set_option linter.unusedVariables false
set_option linter.unusedSimpArgs false

def numBadB (l : List Nat) : Bool := !(numF 0 false l).ok || (decide ((numF 0 false l).kind = 0) && decide (0 ≤ (numF 0 false l).inv))
/-- A fault is told: by the way, or since a low line stands wrong. -/
def NumBad (l : List Nat) : Prop := numBadB l = true ∨ ((numF 0 false l).hs = true ∧ ∃ d r, l.take (numF 0 false l).k = d ++ 95 :: r ∧ (r = [] ∨ r.head? = some 95))
def tails5 : List (List Nat) := [[], [32], [41], [10], [44]]
def bitsL (k : Nat) : List Nat := [49, 49, 49, 48, 49, 49, 48, 49, 48, 49].take (k + 1)
theorem bad_fixed : ∀ b ∈ ([[48, 120], [48, 88], [48, 98], [48, 111], [48, 120, 95], [48, 120, 46, 112, 49]] : List (List Nat)), ∀ t ∈ tails5, numBadB (b ++ t) = true := by decide +kernel
theorem bad_bits : ∀ k : Fin 9, ∀ b ∈ ([[50], [57], [46, 48], [101, 49]] : List (List Nat)), ∀ t ∈ tails5, numBadB ([48, 98] ++ bitsL k.val ++ b ++ t) = true := by decide +kernel
theorem oct_facts {a : Nat} (h : 48 ≤ a ∧ a ≤ 55) : a ≠ 95 ∧ a ≠ 46 ∧ a ≤ 57 ∧ ¬ 56 ≤ a ∧ ¬ 58 ≤ a ∧ low a ≠ 120 ∧ low a ≠ 111 ∧ low a ≠ 98 := by
  have := low_small ⟨a, by omega⟩
  simp only at this
  rw [this]
  refine ⟨by omega, by omega, by omega, by omega, by omega, ?_, ?_, ?_⟩ <;> (repeat' split) <;> omega
theorem lw9 : low 9 = 41 := by decide +kernel
theorem lw10 : low 10 = 42 := by decide +kernel
theorem lw32 : low 32 = 32 := by decide +kernel
theorem lw41 : low 41 = 41 := by decide +kernel
theorem lw43 : low 43 = 43 := by decide +kernel
theorem lw44 : low 44 = 44 := by decide +kernel
theorem lw45 : low 45 = 45 := by decide +kernel
theorem lw46 : low 46 = 46 := by decide +kernel
theorem lw48 : low 48 = 48 := by decide +kernel
theorem lw49 : low 49 = 49 := by decide +kernel
theorem lw50 : low 50 = 50 := by decide +kernel
theorem lw51 : low 51 = 51 := by decide +kernel
theorem lw56 : low 56 = 56 := by decide +kernel
theorem lw57 : low 57 = 57 := by decide +kernel
theorem lw88 : low 88 = 120 := by decide +kernel
theorem lw95 : low 95 = 127 := by decide +kernel
theorem lw98 : low 98 = 98 := by decide +kernel
theorem lw101 : low 101 = 101 := by decide +kernel
theorem lw111 : low 111 = 111 := by decide +kernel
theorem lw112 : low 112 = 112 := by decide +kernel
theorem lw120 : low 120 = 120 := by decide +kernel
/-- Four digits of eight. -/
def Oct4 (d : List Nat) : Prop := ∃ a b c e, d = [a, b, c, e] ∧ (48 ≤ a ∧ a ≤ 55) ∧ (48 ≤ b ∧ b ≤ 55) ∧ (48 ≤ c ∧ c ≤ 55) ∧ (48 ≤ e ∧ e ≤ 55)
theorem bad_oct {d : List Nat} (h : Oct4 d) : ∀ x ∈ [[48, 111] ++ d ++ [56], [48] ++ d ++ [57], [48, 95] ++ d ++ [56], [49] ++ d ++ [101], [49] ++ d ++ [101, 43], [49, 46] ++ d ++ [101, 45], [48, 120] ++ d ++ [112], [48, 120] ++ d ++ [46, 56], [49] ++ d ++ [112, 51], [48, 111] ++ d ++ [46] ++ d],
    ∀ t ∈ tails5, numBadB (x ++ t) = true := by
  obtain ⟨a, b, c, e, rfl, ha, hb, hc, he⟩ := h
  obtain ⟨a1, a2, a3, a4, a5, a6, a7, a8⟩ := oct_facts ha
  obtain ⟨b1, b2, b3, b4, b5, b6, b7, b8⟩ := oct_facts hb
  obtain ⟨c1, c2, c3, c4, c5, c6, c7, c8⟩ := oct_facts hc
  obtain ⟨e1, e2, e3, e4, e5, e6, e7, e8⟩ := oct_facts he
  intro x hx t ht
  simp only [tails5, List.mem_cons, List.not_mem_nil, or_false] at ht hx
  rcases hx with rfl | rfl | rfl | rfl | rfl | rfl | rfl | rfl | rfl | rfl
  all_goals rcases ht with rfl | rfl | rfl | rfl | rfl
  all_goals simp [numBadB, numF, nStart, nPt, nDig, nPre, nFrac, nNo, nExp, nLet, nSign, nExpD, nImag, isExp, expBad, digR, DR.add, invOf, dgt, lw9, lw10, lw32, lw41, lw43, lw44, lw45, lw46, lw48, lw49, lw50, lw51, lw56, lw57, lw88, lw95, lw98, lw101, lw111, lw112, lw120, *]

theorem bad_line {d : List Nat} (h : Oct4 d) : ∀ x ∈ [[49] ++ d ++ [95], [49, 95, 95] ++ d, [48, 120] ++ d ++ [95]], ∀ t ∈ tails5, (numF 0 false (x ++ t)).hs = true ∧ (numF 0 false (x ++ t)).k = x.length := by
  obtain ⟨a, b, c, e, rfl, ha, hb, hc, he⟩ := h
  obtain ⟨a1, a2, a3, a4, a5, a6, a7, a8⟩ := oct_facts ha
  obtain ⟨b1, b2, b3, b4, b5, b6, b7, b8⟩ := oct_facts hb
  obtain ⟨c1, c2, c3, c4, c5, c6, c7, c8⟩ := oct_facts hc
  obtain ⟨e1, e2, e3, e4, e5, e6, e7, e8⟩ := oct_facts he
  intro x hx t ht
  simp only [tails5, List.mem_cons, List.not_mem_nil, or_false] at ht hx
  rcases hx with rfl | rfl | rfl
  all_goals rcases ht with rfl | rfl | rfl | rfl | rfl
  all_goals simp [numF, nStart, nPt, nDig, nPre, nFrac, nNo, nExp, nImag, isExp, digR, DR.add, invOf, dgt, lw10, lw32, lw41, lw44, lw46, lw49, lw56, lw57, lw95, lw101, lw111, lw112, lw120, *]
/-- The statement's texts. -/
def badAll (d : List Nat) (k : Nat) : List (List Nat) :=
  [[48, 120], [48, 88], [48, 98], [48, 111], [48, 98] ++ bitsL k ++ [50], [48, 98] ++ bitsL k ++ [57], [48, 111] ++ d ++ [56], [48] ++ d ++ [57], [48, 95] ++ d ++ [56], [49] ++ d ++ [101], [49] ++ d ++ [101, 43], [49, 46] ++ d ++ [101, 45],
   [49] ++ d ++ [95], [49, 95, 95] ++ d, [48, 120] ++ d ++ [95], [48, 120, 95], [48, 120] ++ d ++ [112], [48, 120] ++ d ++ [46, 56], [49] ++ d ++ [112, 51], [48, 98] ++ bitsL k ++ [46, 48], [48, 98] ++ bitsL k ++ [101, 49], [48, 111] ++ d ++ [46] ++ d, [48, 120, 46, 112, 49]]
theorem bad_all {d : List Nat} (h : Oct4 d) {k : Nat} (hk : k < 9) : ∀ x ∈ badAll d k, ∀ t ∈ tails5, NumBad (x ++ t) := by
  intro x hx t ht
  have hf := fun hx => bad_fixed x hx t ht
  have hb : ∀ b ∈ ([[50], [57], [46, 48], [101, 49]] : List (List Nat)), x = [48, 98] ++ bitsL k ++ b → numBadB (x ++ t) = true := fun b h e => by rw [e]; exact bad_bits ⟨k, hk⟩ b h t ht
  have ho := fun hx => bad_oct h x hx t ht
  have hl := fun hx => bad_line h x hx t ht
  have hr : ∀ a r, x = a ++ 95 :: r → (r = [] ∨ r.head? = some 95) → (x ∈ [[49] ++ d ++ [95], [49, 95, 95] ++ d, [48, 120] ++ d ++ [95]]) → NumBad (x ++ t) := fun a r e hr hx => by
    obtain ⟨h1, h2⟩ := hl hx
    exact .inr ⟨h1, a, r, by rw [h2, List.take_left]; exact e, hr⟩
  simp only [badAll, List.mem_cons, List.not_mem_nil, or_false] at hx
  rcases hx with e | e | e | e | e | e | e | e | e | e | e | e | e | e | e | e | e | e | e | e | e | e | e
  · exact .inl (hf (by simp [e]))
  · exact .inl (hf (by simp [e]))
  · exact .inl (hf (by simp [e]))
  · exact .inl (hf (by simp [e]))
  · exact .inl (hb _ (by simp) e)
  · exact .inl (hb _ (by simp) e)
  · exact .inl (ho (by simp [e]))
  · exact .inl (ho (by simp [e]))
  · exact .inl (ho (by simp [e]))
  · exact .inl (ho (by simp [e]))
  · exact .inl (ho (by simp [e]))
  · exact .inl (ho (by simp [e]))
  · exact hr ([49] ++ d) [] e (.inl rfl) (by simp [e])
  · exact hr [49] (95 :: d) e (.inr rfl) (by simp [e])
  · exact hr ([48, 120] ++ d) [] e (.inl rfl) (by simp [e])
  · exact .inl (hf (by simp [e]))
  · exact .inl (ho (by simp [e]))
  · exact .inl (ho (by simp [e]))
  · exact .inl (ho (by simp [e]))
  · exact .inl (hb _ (by simp) e)
  · exact .inl (hb _ (by simp) e)
  · exact .inl (ho (by simp [e]))
  · exact .inl (hf (by simp [e]))
/-- A low line with no digit behind it: the text is not parted right. -/
theorem not_parted {s : ByteArray} {l d r : List Nat} (hz : s.size = l.length) (hb : ∀ (j : Nat) (h : j < l.length), Sep.byteAt s j = (l[j] : Int)) (e : l = d ++ 95 :: r) (hr : r = [] ∨ r.head? = some 95) (hex : Bool) (st : Nat) : ¬ Sep.partedTo s hex st s.size := by
  intro hp
  have hd : d.length < l.length := by rw [e]; simp
  obtain ⟨-, h1, h2⟩ := hp d.length (by omega) (by rw [hb _ hd]; simp [e])
  rcases hr with rfl | hr
  · rw [hz, e] at h1; simp at h1
  · cases r with
    | nil => cases hr
    | cons y t =>
      have hy : y = 95 := by simpa using hr
      subst hy
      have hlt : d.length + 1 < l.length := by omega
      rw [hb _ hlt] at h2
      have : l[d.length + 1] = 95 := by simp [e]
      rw [this] at h2
      revert h2
      cases hex <;> decide
end Go.Proofs.YtnehkpoggkfikaaDoor

namespace Go.Proofs.YtnehkpoggkfikaaDoor
open Go.RowKit
set_option linter.unusedVariables false

/-- An invalid digit that is told has been read. -/
def InvOk (q : Nat) (n : NS) : Prop := n.inv < (q : Int) + n.k
theorem nDig_invOk {q : Nat} {l : List Nat} {n : NS} (h : InvOk q n) : InvOk q (nDig q l n) := by
  unfold InvOk at *
  unfold nDig
  rcases digR_inv (decide (n.base = 16)) n.base (l.drop n.k) (q + n.k) false false n.inv with e | e
  · simp only [e]; omega
  · simp only at e ⊢; omega
theorem nPre_invOk (q : Nat) (l : List Nat) : InvOk q (nPre l) := by
  have : (nPre l).inv = -1 := by
    unfold nPre
    repeat' split
    all_goals rfl
  unfold InvOk
  rw [this]; omega
theorem nPt_invOk {q : Nat} {l : List Nat} {n : NS} (h : InvOk q n) : InvOk q (nPt l n) := by
  unfold InvOk at *
  unfold nPt
  split
  · simp only; omega
  · exact h
theorem nStart_invOk (q : Nat) (sn : Bool) (l : List Nat) : InvOk q (nStart q sn l) := by
  unfold nStart
  split
  · unfold InvOk; simp only; omega
  · exact nPt_invOk (nDig_invOk (nPre_invOk q l))
theorem nFrac_invOk {q : Nat} {l : List Nat} {n : NS} (h : InvOk q n) : InvOk q (nFrac q l n) := by
  unfold nFrac
  split
  · exact nDig_invOk h
  · exact h
theorem nSign_k (l : List Nat) (n : NS) : (nSign l n).inv = n.inv ∧ n.k ≤ (nSign l n).k := by
  unfold nSign
  split
  · split
    · exact ⟨rfl, by simp⟩
    · exact ⟨rfl, Nat.le_refl _⟩
  · exact ⟨rfl, Nat.le_refl _⟩
theorem nExp_invOk {q : Nat} {l : List Nat} {n : NS} (h : InvOk q n) : InvOk q (nExp q l n) := by
  unfold InvOk at *
  unfold nExp
  split
  · have h1 := nSign_k l (nLet l n)
    have h2 : (nLet l n).inv = n.inv ∧ (nLet l n).k = n.k + 1 := ⟨rfl, rfl⟩
    unfold nExpD
    simp only
    omega
  · exact h
theorem nImag_invOk {q : Nat} {l : List Nat} {n : NS} (h : InvOk q n) : InvOk q (nImag l n) := by
  unfold InvOk at *
  unfold nImag
  split
  · simp only; omega
  · exact h

/-- What number leaves, by its reader's last step. -/
def NumRes (E : Env) (p0 : List UInt8) (l : List Nat) (w : World) (n : NS) (en : Ending) (w' : World) : Prop :=
  NumEnd2 E (p0 ++ encs (l.take n.k)) (l.drop n.k) n.kind (n.ok && !(decide (n.kind = 0) && decide (0 ≤ n.inv))) n.hs w en w'
theorem NSt.small {w0 w : World} {E : Env} {ib : Nat} {p0 : List UInt8} {l : List Nat} {m : Int} {n : NS} (h : NSt w0 w E ib p0 l m n) : (p0 ++ encs (l.take n.k)).length ≤ 100000 := by
  have := h.at_.sa.len
  omega
theorem nPt_no {l : List Nat} {n : NS} (h : (l.drop n.k).head? ≠ some 46) : nPt l n = n := by unfold nPt; rw [if_neg h]
theorem nPt_yes {l : List Nat} {n : NS} (h : (l.drop n.k).head? = some 46) : nPt l n = { n with k := n.k + 1, seen := true, ok := decide (n.pre ≠ 111 ∧ n.pre ≠ 98) } := by unfold nPt; rw [if_pos h]
theorem nImag_no {l : List Nat} {n : NS} (h : (l.drop n.k).head? ≠ some 105) : nImag l n = n := by unfold nImag; rw [if_neg h]
theorem nImag_yes {l : List Nat} {n : NS} (h : (l.drop n.k).head? = some 105) : nImag l n = { n with k := n.k + 1, kind := 2 } := by unfold nImag; rw [if_pos h]
/-- The lower form of the character at hand. -/
def lowI : List Nat → Int
  | [] => -1
  | c :: _ => (low c : Int)
theorem lower_any (L : List Nat) (h : ∀ c ∈ L, c < 1114112) (w : World) : Calls Tryd.prog 93 #[.int .i32 (chOf L)] w fun e w' => e = .returned (.int .i32 (lowI L)) ∧ w = w' := by
  cases L with
  | nil => exact lower_end w
  | cons c t => exact lower_calls c w (by have := h c (by simp); omega)
theorem isExp_eq (l : List Nat) (n : NS) : isExp l n = ((lowI (l.drop n.k) == 101) || (lowI (l.drop n.k) == 112)) := by
  unfold isExp
  cases l.drop n.k with
  | nil => rfl
  | cons c t =>
    rw [Bool.eq_iff_iff]
    simp only [lowI, decide_eq_true_eq, Bool.or_eq_true, beq_iff_eq]
    omega
/-- A digits' call, at whichever base. -/
theorem digits_num {w0 w : World} {E : Env} {ib : Nat} {p0 : List UInt8} {l : List Nat} {m : Int} {n : NS} (h : NSt w0 w E ib p0 l m n) (hL : ∀ c ∈ l, c < 1114112) :
    Calls Tryd.prog 94 #[.pointer (some ⟨E.c.sb, 0, none⟩), .int .i64 (n.base : Int), .pointer (some ⟨ib, 0, none⟩)] w fun en w' =>
      ∃ r : DR, en = .returned (.int .i64 (dsv r.hd r.hs)) ∧ r = digR (decide (n.base = 16)) n.base (p0.length + n.k) (l.drop n.k) false false n.inv ∧ NSt w0 w' E ib p0 l m { n with k := n.k + r.k, hd := n.hd || r.hd, hs := n.hs || r.hs, inv := r.inv } := by
  have fin : ∀ (hex : Bool) (base : Nat), hex = decide (n.base = 16) → base = n.base → ∀ en w', DigPost hex base E ib n.inv (p0 ++ encs (l.take n.k)) (l.drop n.k) (er n.ok) m w en w' → ∃ r : DR, en = .returned (.int .i64 (dsv r.hd r.hs)) ∧ r = digR (decide (n.base = 16)) n.base (p0.length + n.k) (l.drop n.k) false false n.inv ∧ NSt w0 w' E ib p0 l m { n with k := n.k + r.k, hd := n.hd || r.hd, hs := n.hs || r.hs, inv := r.inv } := by
    rintro hex base rfl rfl en w' ⟨r, p', l', rfl, hD, hS, hF⟩
    have hr := hD.1
    rw [h.len] at hr
    refine ⟨r, rfl, hr, h.digs hD hS hF ?_ rfl h.base h.pre h.kind⟩
    rw [hr]; exact digR_ascii _ _ _ _ _ _ _
  by_cases hb : n.base = 16
  · rw [hb]
    refine (digits_hex E ib (some ⟨ib, 0, none⟩) n.inv (p0 ++ encs (l.take n.k)) (l.drop n.k) (er n.ok) m w h.at_ h.nt (fun c hc => by have := hL c (List.mem_of_mem_drop hc); omega)).mono fun en w' hp => ?_
    have := fin true 16 (by simp [hb]) hb.symm en w' hp
    rw [hb] at this; exact this
  · exact (digits_dec E ib n.base (by have := h.base; omega) n.inv (p0 ++ encs (l.take n.k)) (l.drop n.k) (er n.ok) m w h.at_ h.nt).mono fun en w' hp => fin false n.base (by simp [hb]) rfl en w' hp
end Go.Proofs.YtnehkpoggkfikaaDoor

namespace Go.Proofs.YtnehkpoggkfikaaDoor
open Go.RowKit
set_option linter.unusedVariables false

def headSeq : Code → Code
  | .seq a _ => a
  | c => c
def condT : Code → Code
  | .cond _ a _ => a
  | c => c
noncomputable def h64 (n : Nat) : Code := headSeq (t64 n)
noncomputable def x64 : Code := condT (dropSeq 2 (h64 9))
theorem t64_7 : t64 7 = .seq (h64 7) (t64 8) := rfl
theorem t64_8 : t64 8 = .seq (h64 8) (t64 9) := rfl
theorem t64_9 : t64 9 = .seq (h64 9) (t64 10) := rfl
theorem t64_10 : t64 10 = .seq (h64 10) (t64 11) := rfl
theorem t64_11 : t64 11 = .seq (h64 11) (t64 12) := rfl
theorem t64_12 : t64 12 = .seq (h64 12) (t64 13) := rfl
theorem x64_0 : x64 = .seq (headSeq x64) (dropSeq 1 x64) := rfl
theorem x64_1 : dropSeq 1 x64 = .seq (headSeq (dropSeq 1 x64)) (dropSeq 2 x64) := rfl
theorem x64_2 : dropSeq 2 x64 = .seq (headSeq (dropSeq 2 x64)) (dropSeq 3 x64) := rfl
theorem x64_3 : dropSeq 3 x64 = .seq (headSeq (dropSeq 3 x64)) (dropSeq 4 x64) := rfl
theorem x64_4 : dropSeq 4 x64 = .seq (headSeq (dropSeq 4 x64)) (dropSeq 5 x64) := rfl
theorem nSign_nil {l : List Nat} {n : NS} (h : l.drop n.k = []) : nSign l n = n := by unfold nSign; rw [h]
theorem nSign_yes {l t : List Nat} {c : Nat} {n : NS} (h : l.drop n.k = c :: t) (hc : c = 43 ∨ c = 45) : nSign l n = { n with k := n.k + 1 } := by unfold nSign; rw [h]; exact if_pos hc
theorem nSign_no {l t : List Nat} {c : Nat} {n : NS} (h : l.drop n.k = c :: t) (hc : c ≠ 43) (hd : c ≠ 45) : nSign l n = n := by unfold nSign; rw [h]; exact if_neg (by omega)
theorem dsv_or0 (d s : Bool) : bits .or .i64 (dsv d s) 0 = dsv d s := by cases d <;> cases s <;> decide +kernel
theorem digR_10 (pos : Nat) (l : List Nat) (hd hs : Bool) (inv : Int) : (digR false 10 pos l hd hs inv).inv = inv := by
  induction l generalizing pos hd hs with
  | nil => rfl
  | cons c l ih =>
    unfold digR
    split
    · exact ih _ _ _
    · split
      · rename_i h
        have : invOf 10 pos c inv = inv := by
          unfold invOf
          rw [if_neg]
          rcases h with h | ⟨h, -⟩
          · omega
          · cases h
        rw [if_neg (by decide), this]
        exact ih _ _ _
      · rfl
end Go.Proofs.YtnehkpoggkfikaaDoor
