/-
  A scanner in a number: its place, and the cell that holds where an invalid digit stands. Conditions: each law's own.
  The walk through digits: a row of digits and low lines. Conditions: each law's own.
  What the scanner reads of a number, step by step, and a scanner at such a step. Conditions: each law's own.
-/
import Derived.Test.YtnehkpoggkfikaaDoorEscX
import Derived.Test.YtnehkpoggkfikaaDoorDoorB
import Derived.Deep.DeepCutAuto
namespace Go.Proofs.YtnehkpoggkfikaaDoor
open Go.RowKit
set_option linter.unusedVariables false

/-- The scanner's places, one block more counted among the elder ones. -/
def Env.up (E : Env) (ib : Nat) : Env := { E with B := ib + 1 }
theorem Env.up_ok {E : Env} (h : E.ok) {ib : Nat} (hb : E.B ≤ ib) : (E.up ib).ok :=
  ⟨h.hv, Nat.lt_of_lt_of_le h.s (by show E.B ≤ ib + 1; omega), Nat.lt_of_lt_of_le h.b (by show E.B ≤ ib + 1; omega), Nat.lt_of_lt_of_le h.r (by show E.B ≤ ib + 1; omega), h.p1, h.p2, h.p3, h.v1, h.v2, h.v3, h.p⟩
theorem GF.down {E : Env} {ib : Nat} (hb : E.B ≤ ib) {w w' : World} (h : GF (E.up ib) w w') : GF E w w' :=
  ⟨h.os, h.tape, h.output, h.size, fun k a1 a2 a3 a4 a5 => h.block k (by show k < ib + 1; omega) a2 a3 a4 a5, h.tail, h.fz, h.part⟩
theorem TK.down {E : Env} {ib : Nat} (hb : E.B ≤ ib) {w w' : World} (h : TK (E.up ib) w w') : TK E w w' :=
  ⟨h.os, h.tape, h.output, h.size, fun k a1 a2 a3 a4 a5 => h.block k (by show k < ib + 1; omega) a2 a3 a4 a5, h.part⟩

/-- The scanner in a number: e errors told, the cell's value inv. -/
structure NumAt (w : World) (E : Env) (ib : Nat) (inv : Int) (p : List UInt8) (l : List Nat) (e : Nat) (m : Int) : Prop where
  sa : SA w (E.up ib) p l e
  c : w.cell? ⟨ib, 0, none⟩ = some (.int .i64 inv)
  fz : w.frozen? ⟨ib, 0, none⟩ = false
  tail : Tail w E.c.sb m 1 1
  hb : E.B ≤ ib
  ok : E.ok
  pB : E.pb < E.B
  vB : E.vb < E.B
section
variable {w w' : World} {E : Env} {ib : Nat} {inv : Int} {p : List UInt8} {l : List Nat} {e : Nat} {m : Int}
theorem NumAt.ch (h : NumAt w E ib inv p l e m) : w.cell? ⟨E.c.sb, 9, none⟩ = some (.int .i32 (chOf l)) := h.sa.ch
theorem NumAt.ne (h : NumAt w E ib inv p l e m) : ib ≠ E.c.sb ∧ ib ≠ E.c.bb ∧ ib ≠ E.c.rb ∧ ib ≠ E.pb ∧ ib ≠ E.vb ∧ 12 ≤ ib := by
  have := h.ok.s; have := h.ok.b; have := h.ok.r; have := h.pB; have := h.vB; have := h.hb; have := h.ok.p
  omega
theorem NumAt.gf (h : NumAt w E ib inv p l e m) {p' : List UInt8} {l' : List Nat} {e' : Nat} (hS : SA w' (E.up ib) p' l' e') (hF : GF (E.up ib) w w') : NumAt w' E ib inv p' l' e' m := by
  obtain ⟨n1, n2, n3, n4, n5, n6⟩ := h.ne
  have hblk := hF.block ib (by show ib < ib + 1; omega) n1 n2 n3 n4
  exact ⟨hS, (World.cell?_of_block (w := w) hblk).trans h.c, (World.frozen?_of_block (w := w) hblk).trans h.fz, h.tail.gf (E := E) (hF.down h.hb), h.hb, h.ok, h.pB, h.vB⟩
theorem NumAt.drewN (h : NumAt w E ib inv p l e m) (k : Nat) : NumAt (w.drewN k) E ib inv p l e m := ⟨h.sa.drewN k, h.c, h.fz, ⟨h.tail.c11, h.tail.c12, h.tail.c13, h.tail.c14, h.tail.c16, h.tail.c17, h.tail.c18, h.tail.c19⟩, h.hb, h.ok, h.pB, h.vB⟩
theorem NumAt.new (h : NumAt w E ib inv p l e m) (o : Obj) : NumAt (w.alloc o) E ib inv p l e m := h.gf (h.sa.new o) (h.sa.gnew o)
theorem NumAt.gnew (h : NumAt w E ib inv p l e m) (o : Obj) : GF E w (w.alloc o) := (h.sa.gnew o).down h.hb
/-- The cell is written. -/
theorem Scan.setFar {E : Env} {s : St} {n : Nat} {xs : List Value} (h : Scan w E s n xs) {b : Nat} (hB : b < E.B) (n1 : b ≠ E.c.sb) (n2 : b ≠ E.c.bb) (n3 : b ≠ E.c.rb) (n4 : b ≠ E.pb) (n5 : b ≠ E.vb) (n6 : 12 ≤ b) (i : Nat) (v : Value) : Scan (w.setCell ⟨b, i, none⟩ v) E s n xs := by
  have hblk : ∀ k, k ≠ b → (w.setCell ⟨b, i, none⟩ v).heap[k]? = w.heap[k]? := fun k hk => Below.heap_setCell _ _ _ _ hk
  have C : ∀ k o, k ≠ b → (w.setCell ⟨b, i, none⟩ v).cell? ⟨k, o, none⟩ = w.cell? ⟨k, o, none⟩ := fun k o hk => World.cell?_of_block (w := w) (hblk k hk)
  have Z : ∀ k o, k ≠ b → (w.setCell ⟨b, i, none⟩ v).frozen? ⟨k, o, none⟩ = w.frozen? ⟨k, o, none⟩ := fun k o hk => World.frozen?_of_block (w := w) (hblk k hk)
  have tf : TF E.B E.pb w w := ⟨rfl, rfl, rfl, Nat.le_refl _, fun _ _ _ => rfl, fun _ _ => rfl, fun _ => rfl⟩
  obtain ⟨bd, hG, cur, hR, hr⟩ := h.src
  refine ⟨h.ok, ⟨bd, ⟨(C _ _ (by omega)).trans hG.eof, fun j hj => (C _ _ (by omega)).trans (hG.tabs.1 j hj), fun j hj => ⟨(C _ _ (by omega)).trans (hG.tabs.2 j hj).1, (C _ _ (by omega)).trans (hG.tabs.2 j hj).2⟩⟩, cur, ?_, hr⟩, ?_⟩
  · have s := Ne.symm n1
    have r := Ne.symm n3
    exact ⟨hR.ok, (C _ _ s).trans hR.c0, (C _ _ s).trans hR.c1, (C _ _ s).trans hR.c2, (C _ _ s).trans hR.c3, (C _ _ s).trans hR.c4, (C _ _ s).trans hR.c5, (C _ _ s).trans hR.c6, (C _ _ s).trans hR.c7, (C _ _ s).trans hR.c8, (C _ _ s).trans hR.c9, (C _ _ s).trans hR.c10,
      fun i => (Z _ _ s).trans (hR.fs i), (hblk _ (Ne.symm n2)).trans hR.buf, hR.len, (C _ _ r).trans hR.r0, (C _ _ r).trans hR.r1, let ⟨z, hz⟩ := hR.r2; ⟨z, (C _ _ r).trans hz⟩, fun i => (Z _ _ r).trans (hR.fr i)⟩
  · obtain ⟨h0, ⟨u, h1, hown⟩, f, hn, b1, b2, ne, hBs⟩ := h.told
    exact ⟨(C _ _ (Ne.symm n5)).trans h0, ⟨u, (C _ _ (Ne.symm n4)).trans h1, ownsRow_setCell_below hown hB _⟩, fun i => (Z _ _ (Ne.symm n4)).trans (f i), hn, b1, b2, ne, by simpa [World.setCell] using hBs⟩
theorem GF.setFar {E : Env} {w : World} {b : Nat} (hb : E.B ≤ b) (n1 : b ≠ E.c.sb) (n4 : b ≠ E.pb) (i : Nat) (v : Value) : GF E w (w.setCell ⟨b, i, none⟩ v) :=
  ⟨rfl, rfl, rfl, by simp [World.setCell], fun k hk _ _ _ _ => Below.heap_setCell _ _ _ _ (by show k ≠ b; omega), fun j _ => World.cell?_setCell_other _ _ _ _ (fun e => n1 (congrArg Addr.block e)), fun j => World.frozen?_setCell _ _ _ _, fun j _ => World.cell?_setCell_other _ _ _ _ (fun e => n4 (congrArg Addr.block e))⟩
theorem NumAt.set (h : NumAt w E ib inv p l e m) (v : Int) : NumAt (w.setCell ⟨ib, 0, none⟩ (.int .i64 v)) E ib v p l e m ∧ GF E w (w.setCell ⟨ib, 0, none⟩ (.int .i64 v)) := by
  obtain ⟨n1, n2, n3, n4, n5, n6⟩ := h.ne
  have hF : GF E w (w.setCell ⟨ib, 0, none⟩ (.int .i64 v)) := GF.setFar h.hb n1 n4 _ _
  obtain ⟨ns, hn, s, hS, ha⟩ := h.sa
  exact ⟨⟨⟨ns, hn, s, hS.setFar (by show ib < ib + 1; omega) n1 n2 n3 n4 n5 n6 _ _, ha⟩, World.cell?_setCell_same _ _ _ h.c, (World.frozen?_setCell _ _ _ _).trans h.fz, h.tail.gf hF, h.hb, h.ok, h.pB, h.vB⟩, hF⟩
end

theorem next_num (E : Env) (ib : Nat) (inv : Int) (p : List UInt8) (x : Nat) (l : List Nat) (e : Nat) (m : Int) (w : World) (h : NumAt w E ib inv p (x :: l) e m) :
    Calls Tryd.prog 57 #[.pointer (some ⟨E.c.sb, 0, none⟩)] w fun en w' => en = .returned (.tuple #[]) ∧ NumAt w' E ib inv (p ++ enc x) l e m ∧ GF E w w' :=
  (next_sa (E.up ib) p x l e w h.sa).mono fun en w' ⟨he, hS, hF⟩ => ⟨he, h.gf hS hF, hF.down h.hb⟩
theorem errorf_num (E : Env) (ib : Nat) (inv : Int) (p : List UInt8) (l : List Nat) (e : Nat) (m : Int) (t : ByteArray) (a : Option Addr) (al ac : Nat) (w : World) (h : NumAt w E ib inv p l e m) (hn : e < 100000) :
    Calls Tryd.prog 91 #[.pointer (some ⟨E.c.sb, 0, none⟩), .string t, .slice a al ac] w fun en w' => en = .returned (.tuple #[]) ∧ NumAt w' E ib inv p l (e + 1) m ∧ GF E w w' :=
  (errorf_sa (E.up ib) p l e t a al ac w h.sa hn).mono fun en w' ⟨he, hS, hF⟩ => ⟨he, h.gf hS hF, hF.down h.hb⟩
/-- A scanner that stands in a number, as the number's reader begins: nothing told yet. -/
theorem num_start {w : World} {E : Env} {p : List UInt8} {l : List Nat} {m : Int} (h : OpenTo w E p l m) (hnil : w.cell? ⟨E.pb, 4, none⟩ = some (.slice none 0 0)) (v : Int) :
    NumAt (w.alloc (.cells #[.int .i64 v] 3)) E w.heap.size v p l 0 m ∧ GF E w (w.alloc (.cells #[.int .i64 v] 3)) := by
  obtain ⟨s, hS, ha⟩ := h.at_
  obtain ⟨h0, ⟨u, h1, hown⟩, f, hn, b1, b2, ne, hBs⟩ := hS.told
  have hb : Below w.heap.size w (w.alloc (.cells #[.int .i64 v] 3)) := (Below.refl _ _).alloc (Nat.le_refl _) _
  have hS2 := hS.below hb
  have hF := GF.of_below hS hb
  obtain ⟨g0, ⟨u', g1, gown⟩, gf, gn, gb1, gb2, gne, gBs⟩ := hS2.told
  refine ⟨⟨⟨[], rfl, s, ⟨Env.up_ok hS.ok hBs, hS2.src, ?_⟩, ha⟩, ?_, ?_, h.tail.gf hF, hBs, hS.ok, b1, b2⟩, hF⟩
  · exact ⟨g0, ⟨.slice none 0 0, (hb.cell (p := ⟨E.pb, 4, none⟩) (by show E.pb < _; omega)).trans hnil, World.ownsRow_nil _ _ _ _⟩, gf, by simp, by show E.pb < w.heap.size + 1; omega, by show E.vb < w.heap.size + 1; omega, ne, by show w.heap.size + 1 ≤ _; simp⟩
  · unfold World.cell?; rw [(MapKept.heap_alloc w _).1]; rfl
  · unfold World.frozen?; rw [(MapKept.heap_alloc w _).1]; simp
end Go.Proofs.YtnehkpoggkfikaaDoor

namespace Go.Proofs.YtnehkpoggkfikaaDoor
open Go.RowKit
set_option linter.unusedVariables false

/-- A digit: with hex also a letter up to f. -/
def dgt (hex : Bool) (c : Nat) : Prop := (48 ≤ c ∧ c ≤ 57) ∨ (hex = true ∧ 97 ≤ low c ∧ low c ≤ 102)
instance (hex : Bool) (c : Nat) : Decidable (dgt hex c) := by unfold dgt; exact inferInstance
/-- What stands in a row of digits and low lines: how many characters, whether a digit, whether a low line, and where the first digit stands that is none of the base. -/
structure DR where
  k : Nat
  hd : Bool
  hs : Bool
  inv : Int
def DR.add (r : DR) (j : Nat) : DR := { r with k := r.k + j }
/-- The place of the first invalid digit, one more character looked at. -/
def invOf (base pos c : Nat) (inv : Int) : Int := if 48 + base ≤ c ∧ inv < 0 then (pos : Int) else inv
def digR (hex : Bool) (base : Nat) : Nat → List Nat → Bool → Bool → Int → DR
  | _, [], hd, hs, inv => ⟨0, hd, hs, inv⟩
  | pos, c :: l, hd, hs, inv =>
    if c = 95 then (digR hex base (pos + 1) l hd true inv).add 1
    else if dgt hex c then (digR hex base (pos + 1) l true hs (if hex = true then inv else invOf base pos c inv)).add 1
    else ⟨0, hd, hs, inv⟩
def dsv (d s : Bool) : Int := (if d then 1 else 0) + (if s then 2 else 0)
theorem dsv_or1 (d s : Bool) : bits .or .i64 (dsv d s) 1 = dsv true s := by cases d <;> cases s <;> decide +kernel
theorem dsv_or2 (d s : Bool) : bits .or .i64 (dsv d s) 2 = dsv d true := by cases d <;> cases s <;> decide +kernel
theorem dsv_or (d s d' s' : Bool) : bits .or .i64 (dsv d s) (dsv d' s') = dsv (d || d') (s || s') := by cases d <;> cases s <;> cases d' <;> cases s' <;> decide +kernel
theorem dsv_and1 (d s : Bool) : bits .and .i64 (dsv d s) 1 = if d then 1 else 0 := by cases d <;> cases s <;> decide +kernel
theorem dsv_and2 (d s : Bool) : bits .and .i64 (dsv d s) 2 = if s then 2 else 0 := by cases d <;> cases s <;> decide +kernel

/-- The way through a row of digits. -/
def DgTo (hex : Bool) (base : Nat) (p0 : List UInt8) (L : List Nat) (inv0 : Int) (k : Nat) (p : List UInt8) (l : List Nat) (hd hs : Bool) (inv : Int) : Prop :=
  k ≤ L.length ∧ p = p0 ++ encs (L.take k) ∧ l = L.drop k ∧ digR hex base p0.length L false false inv0 = (digR hex base p.length l hd hs inv).add k ∧ (∀ b ∈ p, b ≠ 10)
theorem dgTo_start (hex : Bool) (base : Nat) (p0 : List UInt8) (L : List Nat) (inv0 : Int) (h : ∀ b ∈ p0, b ≠ 10) : DgTo hex base p0 L inv0 0 p0 L false false inv0 := ⟨by omega, by simp [encs], rfl, rfl, h⟩
theorem low_128 (c : Nat) (h : low c ≤ 122) : c < 128 := by have := low_ge c; omega
theorem dgt_lt {hex : Bool} {c : Nat} (h : dgt hex c) : c < 128 := by
  rcases h with h | ⟨_, h1, h2⟩
  · omega
  · exact low_128 c (by omega)
theorem dgTo_next {hex : Bool} {base : Nat} {p0 : List UInt8} {L : List Nat} {inv0 : Int} {k : Nat} {p : List UInt8} {c : Nat} {l : List Nat} {hd hs : Bool} {inv : Int} (h : DgTo hex base p0 L inv0 k p (c :: l) hd hs inv)
    {hd' hs' : Bool} {inv' : Int} (hc : c < 128) (h10 : c ≠ 10) (hr : digR hex base p.length (c :: l) hd hs inv = (digR hex base (p.length + 1) l hd' hs' inv').add 1) : DgTo hex base p0 L inv0 (k + 1) (p ++ enc c) l hd' hs' inv' := by
  obtain ⟨h1, h2, h3, h4, h5⟩ := h
  have hlen := congrArg List.length h3
  simp only [List.length_cons, List.length_drop] at hlen
  have hlt : k < L.length := by omega
  have hg : L.drop k = c :: l := h3.symm
  rw [List.drop_eq_getElem_cons hlt] at hg
  injection hg with g1 g2
  have he := enc_ascii c hc
  refine ⟨by omega, ?_, g2.symm, ?_, ?_⟩
  · rw [List.take_succ_eq_append_getElem hlt, encs_append, h2, g1]; simp [encs]
  · rw [h4, hr, he]; simp [DR.add]; omega
  · intro b hb
    rcases List.mem_append.1 hb with hb | hb
    · exact h5 b hb
    · rw [he] at hb
      simp at hb
      subst hb
      intro e
      have := congrArg UInt8.toNat e
      simp at this; omega
theorem dgTo_line {hex : Bool} {base : Nat} {p0 : List UInt8} {L : List Nat} {inv0 : Int} {k : Nat} {p : List UInt8} {l : List Nat} {hd hs : Bool} {inv : Int} (h : DgTo hex base p0 L inv0 k p (95 :: l) hd hs inv) : DgTo hex base p0 L inv0 (k + 1) (p ++ enc 95) l hd true inv :=
  dgTo_next h (by omega) (by omega) (by conv => lhs; unfold digR; rw [if_pos rfl])
theorem not_dgt10 (hex : Bool) : ¬ dgt hex 10 := by cases hex <;> decide +kernel
theorem dgTo_digit {hex : Bool} {base : Nat} {p0 : List UInt8} {L : List Nat} {inv0 : Int} {k : Nat} {p : List UInt8} {c : Nat} {l : List Nat} {hd hs : Bool} {inv : Int} (h : DgTo hex base p0 L inv0 k p (c :: l) hd hs inv) (hc : dgt hex c) (h95 : c ≠ 95) {inv' : Int}
    (hi : inv' = if hex = true then inv else invOf base p.length c inv) : DgTo hex base p0 L inv0 (k + 1) (p ++ enc c) l true hs inv' := by
  refine dgTo_next h (dgt_lt hc) ?_ ?_
  · intro e10; rw [e10] at hc; exact absurd hc (not_dgt10 hex)
  · conv => lhs; unfold digR
    rw [if_neg h95, if_pos hc, hi]
/-- A row of digits at its end. -/
def DgDone (hex : Bool) (base : Nat) (p0 : List UInt8) (L : List Nat) (inv0 : Int) (r : DR) (p : List UInt8) (l : List Nat) : Prop := r = digR hex base p0.length L false false inv0 ∧ p = p0 ++ encs (L.take r.k) ∧ l = L.drop r.k ∧ r.k ≤ L.length ∧ (∀ b ∈ p, b ≠ 10)
theorem dgTo_end {hex : Bool} {base : Nat} {p0 : List UInt8} {L : List Nat} {inv0 : Int} {k : Nat} {p : List UInt8} {l : List Nat} {hd hs : Bool} {inv : Int} (h : DgTo hex base p0 L inv0 k p l hd hs inv) (hl : ∀ c t, l = c :: t → c ≠ 95 ∧ ¬ dgt hex c) : DgDone hex base p0 L inv0 ⟨k, hd, hs, inv⟩ p l := by
  obtain ⟨h1, h2, h3, h4, h5⟩ := h
  refine ⟨?_, h2, h3, h1, h5⟩
  rw [h4]
  cases l with
  | nil => simp [digR, DR.add]
  | cons c t =>
    obtain ⟨a, b⟩ := hl c t rfl
    unfold digR
    rw [if_neg a, if_neg b]; simp [DR.add]

/-- What digits gives. -/
def DigPost (hex : Bool) (base : Nat) (E : Env) (ib : Nat) (inv0 : Int) (p : List UInt8) (L : List Nat) (e : Nat) (m : Int) (w : World) (en : Ending) (w' : World) : Prop :=
  ∃ r p' l', en = .returned (.int .i64 (dsv r.hd r.hs)) ∧ DgDone hex base p L inv0 r p' l' ∧ NumAt w' E ib r.inv p' l' e m ∧ GF E w w'

theorem isDecimal_end (w : World) : Calls Tryd.prog 100 #[.int .i32 (-1)] w fun e w' => e = .returned (.bool false) ∧ w = w' := isDecimal_no (-1) w (.inl (by omega))

set_option maxRecDepth 100000 in
set_option maxHeartbeats 4000000 in
theorem digits_dec (E : Env) (ib : Nat) (base : Nat) (hb : base = 2 ∨ base = 8 ∨ base = 10) (inv0 : Int) (p : List UInt8) (L : List Nat) (e : Nat) (m : Int) (w : World) (h : NumAt w E ib inv0 p L e m) (hp : ∀ b ∈ p, b ≠ 10) :
    Calls Tryd.prog 94 #[.pointer (some ⟨E.c.sb, 0, none⟩), .int .i64 (base : Int), .pointer (some ⟨ib, 0, none⟩)] w (DigPost false base E ib inv0 p L e m w) := by
  have hlen : Hid (p.length + L.length ≤ 2000) := h.sa.len
  have H := Lib.hid h
  have H0 := Lib.hid (dgTo_start false base p L inv0 hp)
  have hb1 : (base : Int) ≤ 10 := by omega
  have hmx : IntKind.i32.wrap (48 + (base : Int)) = 48 + (base : Int) := IntWalk.i32_in _ (by omega)
  clear h hp hb
  have hor1 := dsv_or1
  have hor2 := dsv_or2
  have hor0 : dsv false false = 0 := rfl
  go_enter Tryd.func94, Tryd.ntmps94
  go_wp2_with fail
  go_loopg [6, 8, 9, 10] (L.length + 5) (fun g dv a b c wr => ∃ (k : Nat) (p' : List UInt8) (l' : List Nat) (hd hs : Bool) (inv : Int) (a0 b0 c0 : Value), g = l'.length + 5 ∧ dv = .int .i64 (dsv hd hs) ∧ a = a0 ∧ b = b0 ∧ c = c0 ∧ NumAt wr E ib inv p' l' e m ∧ GF E w wr ∧ Hid (DgTo false base p L inv0 k p' l' hd hs inv))
  case atStart => exact ⟨0, p, L, false, false, inv0, _, _, _, rfl, rfl, rfl, rfl, rfl, H.out, GF.refl E w, H0.out⟩
  case round =>
    obtain ⟨k, p', l', hd, hs, inv, a0, b0, c0, rfl, rfl, rfl, rfl, rfl, hS, hF, hD⟩ := hrel
    have hch := hS.ch
    have HS := Lib.hid hS
    have HF := Lib.hid hF
    clear hS hF hor0
    cases l' with
    | nil =>
      simp only [chOf] at hch
      have hE := Lib.hid (dgTo_end hD.out (fun c t h => by cases h))
      go_wp2_with (go_at_call 100; refine (isDecimal_end _).mono ?_; rintro en w3 ⟨rfl, rfl⟩)
      go_ret
      exact ⟨⟨k, hd, hs, inv⟩, _, _, rfl, hE.out, HS.out, HF.out⟩
    | cons c l2 =>
      simp only [chOf] at hch
      by_cases hdec : 48 ≤ c ∧ c ≤ 57
      · obtain ⟨h1, h2⟩ := hdec
        have h1' : (48 : Int) ≤ (c : Int) := by omega
        have h2' : (c : Int) ≤ 57 := by omega
        have t95 : ((c : Int) == 95) = false := by simp; omega
        have hdg : dgt false c := .inl ⟨h1, h2⟩
        by_cases hbig : 48 + base ≤ c
        · have hbig' : 48 + (base : Int) ≤ (c : Int) := by omega
          by_cases hinv : inv < 0
          · obtain ⟨ln, hl1, hl2, c7, c8⟩ := HS.out.sa.col hD.out.2.2.2.2
            have c14 := HS.out.tail.c14
            have cib := HS.out.c
            have fib := HS.out.fz
            have hnx := Lib.hid (dgTo_digit hD.out hdg (by omega) (inv' := (p'.length : Int)) (by simp [invOf, hbig, hinv]))
            have hw1 : IntKind.u64.wrap ((p'.length : Int) + 1 - 1) = (p'.length : Int) := by rw [IntWalk.u64_in _ (by omega)]; omega
            have hw2 : IntKind.i64.wrap (p'.length : Int) = (p'.length : Int) := IntWalk.i64_in _ (by omega)
            have hinv' : decide (inv < 0) = true := by simp; omega
            have c7 := Lib.hid c7
            have c8 := Lib.hid c8
            clear h1 h2 hbig hdg
            go_wp2_with (first | (go_at_call 100; refine (isDecimal_yes c _ h1' h2').mono ?_; rintro en w3 ⟨rfl, rfl⟩) | (go_at_call 77; refine (pos_calls E.c.sb ln p'.length _ c7.out c8.out hl1 hl2).mono ?_; rintro en w3 ⟨rfl, q, rfl⟩) | (go_at_call 57; refine (next_num E ib (p'.length : Int) p' c l2 e m _ ((HS.out.drewN q).set (p'.length : Int)).1).mono ?_; rintro en w4 ⟨rfl, hS4, hF4⟩; have hS4 := Lib.hid hS4; have hF4 := Lib.hid hF4))
            go_roundg (l2.length + 5)
            case measure => simp
            case rel => exact ⟨k + 1, _, l2, true, hs, (p'.length : Int), _, _, _, rfl, rfl, rfl, rfl, rfl, hS4.out, (((HF.out.drewN q).trans ((HS.out.drewN q).set (p'.length : Int)).2).trans hF4.out), hnx.out⟩
          · have hnx := Lib.hid (dgTo_digit hD.out hdg (by omega) (inv' := inv) (by simp [invOf, hinv]))
            have cib := HS.out.c
            have hinv' : decide (inv < 0) = false := by simp; omega
            clear h1 h2 hbig hdg
            go_wp2_with (first | (go_at_call 100; refine (isDecimal_yes c _ h1' h2').mono ?_; rintro en w3 ⟨rfl, rfl⟩) | (go_at_call 57; refine (next_num E ib inv p' c l2 e m _ HS.out).mono ?_; rintro en w4 ⟨rfl, hS4, hF4⟩; have hS4 := Lib.hid hS4; have hF4 := Lib.hid hF4))
            go_roundg (l2.length + 5)
            case measure => simp
            case rel => exact ⟨k + 1, _, l2, true, hs, inv, _, _, _, rfl, rfl, rfl, rfl, rfl, hS4.out, HF.out.trans hF4.out, hnx.out⟩
        · have hnx := Lib.hid (dgTo_digit hD.out hdg (by omega) (inv' := inv) (by simp [invOf, hbig]))
          have hbig' : ¬ 48 + (base : Int) ≤ (c : Int) := by omega
          clear h1 h2 hbig hdg
          go_wp2_with (first | (go_at_call 100; refine (isDecimal_yes c _ h1' h2').mono ?_; rintro en w3 ⟨rfl, rfl⟩) | (go_at_call 57; refine (next_num E ib inv p' c l2 e m _ HS.out).mono ?_; rintro en w4 ⟨rfl, hS4, hF4⟩; have hS4 := Lib.hid hS4; have hF4 := Lib.hid hF4))
          go_roundg (l2.length + 5)
          case measure => simp
          case rel => exact ⟨k + 1, _, l2, true, hs, inv, _, _, _, rfl, rfl, rfl, rfl, rfl, hS4.out, HF.out.trans hF4.out, hnx.out⟩
      · have hno : (c : Int) < 48 ∨ 57 < (c : Int) := by omega
        have hno := Lib.hid hno
        by_cases h95 : c = 95
        · subst h95
          have hnx := Lib.hid (dgTo_line hD.out)
          clear hdec
          go_wp2_with (first | (go_at_call 100; refine (isDecimal_no 95 _ (.inr (by omega))).mono ?_; rintro en w3 ⟨rfl, rfl⟩) | (go_at_call 57; refine (next_num E ib inv p' 95 l2 e m _ HS.out).mono ?_; rintro en w4 ⟨rfl, hS4, hF4⟩; have hS4 := Lib.hid hS4; have hF4 := Lib.hid hF4))
          go_roundg (l2.length + 5)
          case measure => simp
          case rel => exact ⟨k + 1, _, l2, hd, true, inv, _, _, _, rfl, rfl, rfl, rfl, rfl, hS4.out, HF.out.trans hF4.out, hnx.out⟩
        · have t95 : ((c : Int) == 95) = false := by simp; omega
          have hE := Lib.hid (dgTo_end hD.out (fun c' t h => by injection h with h3 h4; subst h3; exact ⟨h95, fun h => h.elim hdec (fun h => by cases h.1)⟩))
          clear hdec h95
          go_wp2_with (go_at_call 100; refine (isDecimal_no c _ hno.out).mono ?_; rintro en w3 ⟨rfl, rfl⟩)
          go_ret
          exact ⟨⟨k, hd, hs, inv⟩, _, _, rfl, hE.out, HS.out, HF.out⟩

set_option maxRecDepth 100000 in
set_option maxHeartbeats 4000000 in
theorem digits_exp (E : Env) (ib : Nat) (inv0 : Int) (p : List UInt8) (L : List Nat) (e : Nat) (m : Int) (w : World) (h : NumAt w E ib inv0 p L e m) (hp : ∀ b ∈ p, b ≠ 10) :
    Calls Tryd.prog 94 #[.pointer (some ⟨E.c.sb, 0, none⟩), .int .i64 10, .pointer none] w (DigPost false 10 E ib inv0 p L e m w) := by
  have hlen : Hid (p.length + L.length ≤ 2000) := h.sa.len
  have H := Lib.hid h
  have H0 := Lib.hid (dgTo_start false 10 p L inv0 hp)
  clear h hp
  have hor1 := dsv_or1
  have hor2 := dsv_or2
  have hor0 : dsv false false = 0 := rfl
  go_enter Tryd.func94, Tryd.ntmps94
  go_wp2_with fail
  go_loopg [6, 8, 9, 10] (L.length + 5) (fun g dv a b c wr => ∃ (k : Nat) (p' : List UInt8) (l' : List Nat) (hd hs : Bool) (inv : Int) (a0 b0 c0 : Value), g = l'.length + 5 ∧ dv = .int .i64 (dsv hd hs) ∧ a = a0 ∧ b = b0 ∧ c = c0 ∧ NumAt wr E ib inv p' l' e m ∧ GF E w wr ∧ Hid (DgTo false 10 p L inv0 k p' l' hd hs inv))
  case atStart => exact ⟨0, p, L, false, false, inv0, _, _, _, rfl, rfl, rfl, rfl, rfl, H.out, GF.refl E w, H0.out⟩
  case round =>
    obtain ⟨k, p', l', hd, hs, inv, a0, b0, c0, rfl, rfl, rfl, rfl, rfl, hS, hF, hD⟩ := hrel
    have hch := hS.ch
    have HS := Lib.hid hS
    have HF := Lib.hid hF
    clear hS hF hor0
    cases l' with
    | nil =>
      simp only [chOf] at hch
      have hE := Lib.hid (dgTo_end hD.out (fun c t h => by cases h))
      go_wp2_with (go_at_call 100; refine (isDecimal_end _).mono ?_; rintro en w3 ⟨rfl, rfl⟩)
      go_ret
      exact ⟨⟨k, hd, hs, inv⟩, _, _, rfl, hE.out, HS.out, HF.out⟩
    | cons c l2 =>
      simp only [chOf] at hch
      by_cases hdec : 48 ≤ c ∧ c ≤ 57
      · obtain ⟨h1, h2⟩ := hdec
        have h1' : (48 : Int) ≤ (c : Int) := by omega
        have h2' : (c : Int) ≤ 57 := by omega
        have t95 : ((c : Int) == 95) = false := by simp; omega
        have hdg : dgt false c := .inl ⟨h1, h2⟩
        have hnx := Lib.hid (dgTo_digit hD.out hdg (by omega) (inv' := inv) (by unfold invOf; rw [if_neg (by decide), if_neg (by omega)]))
        have hbig' : ¬ (58 : Int) ≤ (c : Int) := by omega
        clear h1 h2 hdg
        go_wp2_with (first | (go_at_call 100; refine (isDecimal_yes c _ h1' h2').mono ?_; rintro en w3 ⟨rfl, rfl⟩) | (go_at_call 57; refine (next_num E ib inv p' c l2 e m _ HS.out).mono ?_; rintro en w4 ⟨rfl, hS4, hF4⟩; have hS4 := Lib.hid hS4; have hF4 := Lib.hid hF4))
        go_roundg (l2.length + 5)
        case measure => simp
        case rel => exact ⟨k + 1, _, l2, true, hs, inv, _, _, _, rfl, rfl, rfl, rfl, rfl, hS4.out, HF.out.trans hF4.out, hnx.out⟩
      · have hno : (c : Int) < 48 ∨ 57 < (c : Int) := by omega
        have hno := Lib.hid hno
        by_cases h95 : c = 95
        · subst h95
          have hnx := Lib.hid (dgTo_line hD.out)
          clear hdec
          go_wp2_with (first | (go_at_call 100; refine (isDecimal_no 95 _ (.inr (by omega))).mono ?_; rintro en w3 ⟨rfl, rfl⟩) | (go_at_call 57; refine (next_num E ib inv p' 95 l2 e m _ HS.out).mono ?_; rintro en w4 ⟨rfl, hS4, hF4⟩; have hS4 := Lib.hid hS4; have hF4 := Lib.hid hF4))
          go_roundg (l2.length + 5)
          case measure => simp
          case rel => exact ⟨k + 1, _, l2, hd, true, inv, _, _, _, rfl, rfl, rfl, rfl, rfl, hS4.out, HF.out.trans hF4.out, hnx.out⟩
        · have t95 : ((c : Int) == 95) = false := by simp; omega
          have hE := Lib.hid (dgTo_end hD.out (fun c' t h => by injection h with h3 h4; subst h3; exact ⟨h95, fun h => h.elim hdec (fun h => by cases h.1)⟩))
          clear hdec h95
          go_wp2_with (go_at_call 100; refine (isDecimal_no c _ hno.out).mono ?_; rintro en w3 ⟨rfl, rfl⟩)
          go_ret
          exact ⟨⟨k, hd, hs, inv⟩, _, _, rfl, hE.out, HS.out, HF.out⟩

theorem isHex_yes (c : Nat) (w : World) (hc : c < 2147483648) (h : dgt true c) : Calls Tryd.prog 112 #[.int .i32 (c : Int)] w fun e w' => e = .returned (.bool true) ∧ w = w' := by
  have hcb := Lib.hid hc
  clear hc
  by_cases hd : 48 ≤ c ∧ c ≤ 57
  · have h1' : (48 : Int) ≤ (c : Int) := by omega
    have h2' : (c : Int) ≤ 57 := by omega
    clear h hd
    go_enter Tryd.func112, Tryd.ntmps112
    go_wp2
    go_ret
    exact ⟨rfl, rfl⟩
  · have hl : 97 ≤ low c ∧ low c ≤ 102 := h.elim (fun h => absurd h hd) (fun h => h.2)
    have h1' : (97 : Int) ≤ (low c : Int) := by omega
    have h2' : (low c : Int) ≤ 102 := by omega
    clear h
    by_cases h3 : 48 ≤ c
    · have a1 : (48 : Int) ≤ (c : Int) := by omega
      have a2 : decide ((c : Int) ≤ 57) = false := by simp; omega
      clear hd hl h3
      go_enter Tryd.func112, Tryd.ntmps112
      go_wp2_with (go_at_call 93; refine (lower_calls c _ hcb.out).mono ?_; rintro en w3 ⟨rfl, rfl⟩)
      go_ret
      exact ⟨rfl, rfl⟩
    · have := low_ge c
      have h5 := (low_in c 97 102 (by decide) (by decide)).1 hl
      omega
theorem isHex_no (c : Nat) (w : World) (hc : c < 2147483648) (h : ¬ dgt true c) : Calls Tryd.prog 112 #[.int .i32 (c : Int)] w fun e w' => e = .returned (.bool false) ∧ w = w' := by
  have hcb := Lib.hid hc
  clear hc
  have hd : ¬ (48 ≤ c ∧ c ≤ 57) := fun h2 => h (.inl h2)
  have hl : ¬ (97 ≤ low c ∧ low c ≤ 102) := fun h2 => h (.inr ⟨rfl, h2⟩)
  clear h
  by_cases h3 : 48 ≤ c <;> by_cases h4 : 97 ≤ low c
  · have a1 : (48 : Int) ≤ (c : Int) := by omega
    have a2 : decide ((c : Int) ≤ 57) = false := by simp; omega
    have a3 : (97 : Int) ≤ (low c : Int) := by omega
    have a4 : decide ((low c : Int) ≤ 102) = false := by simp; omega
    clear hd hl h3 h4
    go_enter Tryd.func112, Tryd.ntmps112
    go_wp2_with (go_at_call 93; refine (lower_calls c _ hcb.out).mono ?_; rintro en w3 ⟨rfl, rfl⟩)
    go_ret
    exact ⟨rfl, rfl⟩
  · have a1 : (48 : Int) ≤ (c : Int) := by omega
    have a2 : decide ((c : Int) ≤ 57) = false := by simp; omega
    have a3 : decide ((97 : Int) ≤ (low c : Int)) = false := by simp; omega
    clear hd hl h3 h4
    go_enter Tryd.func112, Tryd.ntmps112
    go_wp2_with (go_at_call 93; refine (lower_calls c _ hcb.out).mono ?_; rintro en w3 ⟨rfl, rfl⟩)
    go_ret
    exact ⟨rfl, rfl⟩
  · have a1 : decide ((48 : Int) ≤ (c : Int)) = false := by simp; omega
    have a3 : (97 : Int) ≤ (low c : Int) := by omega
    have a4 : decide ((low c : Int) ≤ 102) = false := by simp; omega
    clear hd hl h3 h4
    go_enter Tryd.func112, Tryd.ntmps112
    go_wp2_with (go_at_call 93; refine (lower_calls c _ hcb.out).mono ?_; rintro en w3 ⟨rfl, rfl⟩)
    go_ret
    exact ⟨rfl, rfl⟩
  · have a1 : decide ((48 : Int) ≤ (c : Int)) = false := by simp; omega
    have a3 : decide ((97 : Int) ≤ (low c : Int)) = false := by simp; omega
    clear hd hl h3 h4
    go_enter Tryd.func112, Tryd.ntmps112
    go_wp2_with (go_at_call 93; refine (lower_calls c _ hcb.out).mono ?_; rintro en w3 ⟨rfl, rfl⟩)
    go_ret
    exact ⟨rfl, rfl⟩
theorem isHex_end (w : World) : Calls Tryd.prog 112 #[.int .i32 (-1)] w fun e w' => e = .returned (.bool false) ∧ w = w' := by
  go_enter Tryd.func112, Tryd.ntmps112
  go_wp2_with (go_at_call 93; refine (lower_end _).mono ?_; rintro en w3 ⟨rfl, rfl⟩)
  go_ret
  exact ⟨rfl, rfl⟩

set_option maxRecDepth 100000 in
set_option maxHeartbeats 4000000 in
theorem digits_hex (E : Env) (ib : Nat) (a : Option Addr) (inv0 : Int) (p : List UInt8) (L : List Nat) (e : Nat) (m : Int) (w : World) (h : NumAt w E ib inv0 p L e m) (hp : ∀ b ∈ p, b ≠ 10) (hL : ∀ c ∈ L, c < 2147483648) :
    Calls Tryd.prog 94 #[.pointer (some ⟨E.c.sb, 0, none⟩), .int .i64 16, .pointer a] w (DigPost true 16 E ib inv0 p L e m w) := by
  have hlen : Hid (p.length + L.length ≤ 2000) := h.sa.len
  have H := Lib.hid h
  have H0 := Lib.hid (dgTo_start true 16 p L inv0 hp)
  have HL := Lib.hid hL
  clear h hp hL
  have hor1 := dsv_or1
  have hor2 := dsv_or2
  go_enter Tryd.func94, Tryd.ntmps94
  go_wp2_with fail
  go_loopg [6, 11] (L.length + 5) (fun g dv a wr => ∃ (k : Nat) (p' : List UInt8) (l' : List Nat) (hd hs : Bool) (inv : Int) (a0 : Value), g = l'.length + 5 ∧ dv = .int .i64 (dsv hd hs) ∧ a = a0 ∧ NumAt wr E ib inv p' l' e m ∧ GF E w wr ∧ Hid (DgTo true 16 p L inv0 k p' l' hd hs inv))
  case atStart => exact ⟨0, p, L, false, false, inv0, _, rfl, rfl, rfl, H.out, GF.refl E w, H0.out⟩
  case round =>
    obtain ⟨k, p', l', hd, hs, inv, a0, rfl, rfl, rfl, hS, hF, hD⟩ := hrel
    have hch := hS.ch
    have HS := Lib.hid hS
    have HF := Lib.hid hF
    clear hS hF
    cases l' with
    | nil =>
      simp only [chOf] at hch
      have hE := Lib.hid (dgTo_end hD.out (fun c t h => by cases h))
      go_wp2_with (go_at_call 112; refine (isHex_end _).mono ?_; rintro en w3 ⟨rfl, rfl⟩)
      go_ret
      exact ⟨⟨k, hd, hs, inv⟩, _, _, rfl, hE.out, HS.out, HF.out⟩
    | cons c l2 =>
      simp only [chOf] at hch
      have hcb : Hid (c < 2147483648) := HL.out c (by have := hD.out.2.2.1; exact List.mem_of_mem_drop (this ▸ List.mem_cons_self))
      by_cases hdg : dgt true c
      · have h95 : c ≠ 95 := fun e95 => by rw [e95] at hdg; exact absurd hdg (by decide +kernel)
        have t95 : ((c : Int) == 95) = false := by simp; omega
        have hnx := Lib.hid (dgTo_digit hD.out hdg h95 (inv' := inv) rfl)
        have hdg := Lib.hid hdg
        clear h95
        go_wp2_with (first | (go_at_call 112; refine (isHex_yes c _ hcb.out hdg.out).mono ?_; rintro en w3 ⟨rfl, rfl⟩) | (go_at_call 57; refine (next_num E ib inv p' c l2 e m _ HS.out).mono ?_; rintro en w4 ⟨rfl, hS4, hF4⟩; have hS4 := Lib.hid hS4; have hF4 := Lib.hid hF4))
        go_roundg (l2.length + 5)
        case measure => simp
        case rel => exact ⟨k + 1, _, l2, true, hs, inv, _, rfl, rfl, rfl, hS4.out, HF.out.trans hF4.out, hnx.out⟩
      · by_cases h95 : c = 95
        · subst h95
          have hnx := Lib.hid (dgTo_line hD.out)
          have hdg := Lib.hid hdg
          go_wp2_with (first | (go_at_call 112; refine (isHex_no 95 _ hcb.out hdg.out).mono ?_; rintro en w3 ⟨rfl, rfl⟩) | (go_at_call 57; refine (next_num E ib inv p' 95 l2 e m _ HS.out).mono ?_; rintro en w4 ⟨rfl, hS4, hF4⟩; have hS4 := Lib.hid hS4; have hF4 := Lib.hid hF4))
          go_roundg (l2.length + 5)
          case measure => simp
          case rel => exact ⟨k + 1, _, l2, hd, true, inv, _, rfl, rfl, rfl, hS4.out, HF.out.trans hF4.out, hnx.out⟩
        · have t95 : ((c : Int) == 95) = false := by simp; omega
          have hE := Lib.hid (dgTo_end hD.out (fun c' t h => by injection h with h3 h4; subst h3; exact ⟨h95, hdg⟩))
          have hdg := Lib.hid hdg
          clear h95
          go_wp2_with (go_at_call 112; refine (isHex_no c _ hcb.out hdg.out).mono ?_; rintro en w3 ⟨rfl, rfl⟩)
          go_ret
          exact ⟨⟨k, hd, hs, inv⟩, _, _, rfl, hE.out, HS.out, HF.out⟩
end Go.Proofs.YtnehkpoggkfikaaDoor

namespace Go.Proofs.YtnehkpoggkfikaaDoor
open Go.RowKit
set_option linter.unusedVariables false

/-- Where a number's reader stands. -/
structure NS where
  k : Nat
  kind : Nat
  base : Nat
  pre : Nat
  hd : Bool
  hs : Bool
  inv : Int
  ok : Bool
  seen : Bool
/-- The number's beginning: its base. -/
def nPre : List Nat → NS
  | 48 :: c :: _ =>
    if low c = 120 then ⟨2, 0, 16, 120, false, false, -1, true, false⟩
    else if low c = 111 then ⟨2, 0, 8, 111, false, false, -1, true, false⟩
    else if low c = 98 then ⟨2, 0, 2, 98, false, false, -1, true, false⟩
    else ⟨1, 0, 8, 48, true, false, -1, true, false⟩
  | [48] => ⟨1, 0, 8, 48, true, false, -1, true, false⟩
  | _ => ⟨0, 0, 10, 0, false, false, -1, true, false⟩
/-- A row of digits. -/
def nDig (q : Nat) (l : List Nat) (n : NS) : NS :=
  let r := digR (decide (n.base = 16)) n.base (q + n.k) (l.drop n.k) false false n.inv
  { n with k := n.k + r.k, hd := n.hd || r.hd, hs := n.hs || r.hs, inv := r.inv }
/-- The point behind whole digits. -/
def nPt (l : List Nat) (n : NS) : NS :=
  if (l.drop n.k).head? = some 46 then { n with k := n.k + 1, seen := true, ok := decide (n.pre ≠ 111 ∧ n.pre ≠ 98) } else n
def nStart (q : Nat) (seen : Bool) (l : List Nat) : NS := if seen = true then ⟨0, 0, 10, 0, false, false, -1, true, true⟩ else nPt l (nDig q l (nPre l))
/-- The digits behind the point. -/
def nFrac (q : Nat) (l : List Nat) (n : NS) : NS := if n.seen = true then nDig q l { n with kind := 1 } else n
def nNo (n : NS) : NS := { n with ok := n.ok && n.hd }
/-- Whether an exponent's letter does not fit the base. -/
def expBad (c pre : Nat) : Bool := (decide (c = 101) && decide (pre ≠ 0) && decide (pre ≠ 48)) || (decide (c = 112) && decide (pre ≠ 120))
/-- The exponent's letter. -/
def nLet (l : List Nat) (n : NS) : NS := { n with k := n.k + 1, kind := 1, ok := n.ok && !(match l.drop n.k with | c :: _ => expBad (low c) n.pre | [] => false) }
def nSign (l : List Nat) (n : NS) : NS := match l.drop n.k with | c :: _ => if c = 43 ∨ c = 45 then { n with k := n.k + 1 } else n | [] => n
/-- The exponent's digits. -/
def nExpD (q : Nat) (l : List Nat) (n : NS) : NS :=
  let r := digR false 10 (q + n.k) (l.drop n.k) false false n.inv
  { n with k := n.k + r.k, hd := r.hd, hs := n.hs || r.hs, ok := n.ok && r.hd }
def isExp (l : List Nat) (n : NS) : Bool := match l.drop n.k with | c :: _ => decide (low c = 101 ∨ low c = 112) | [] => false
def nExp (q : Nat) (l : List Nat) (n : NS) : NS := if isExp l n = true then nExpD q l (nSign l (nLet l n)) else { n with ok := n.ok && !(decide (n.pre = 120) && decide (n.kind = 1)) }
def nImag (l : List Nat) (n : NS) : NS := if (l.drop n.k).head? = some 105 then { n with k := n.k + 1, kind := 2 } else n
/-- A number. -/
def numF (q : Nat) (seen : Bool) (l : List Nat) : NS := nImag l (nExp q l (nNo (nFrac q l (nStart q seen l))))

/-- The scanner at such a step: p0 stands ahead, the characters l from there on. -/
structure NSt (w0 w : World) (E : Env) (ib : Nat) (p0 : List UInt8) (l : List Nat) (m : Int) (n : NS) : Prop where
  at_ : NumAt w E ib n.inv (p0 ++ encs (l.take n.k)) (l.drop n.k) (er n.ok) m
  gf : GF E w0 w
  nt : ∀ b ∈ p0 ++ encs (l.take n.k), b ≠ 10
  len : (p0 ++ encs (l.take n.k)).length = p0.length + n.k
  le : n.k ≤ l.length
  base : n.base = 2 ∨ n.base = 8 ∨ n.base = 10 ∨ n.base = 16
  pre : n.pre = 0 ∨ n.pre = 48 ∨ n.pre = 120 ∨ n.pre = 111 ∨ n.pre = 98
  kind : n.kind ≤ 2
section
variable {w0 w w' : World} {E : Env} {ib : Nat} {p0 : List UInt8} {l : List Nat} {m : Int} {n : NS}
theorem NSt.ch (h : NSt w0 w E ib p0 l m n) : w.cell? ⟨E.c.sb, 9, none⟩ = some (.int .i32 (chOf (l.drop n.k))) := h.at_.ch
/-- One character more. -/
theorem NSt.next (h : NSt w0 w E ib p0 l m n) {c : Nat} {l2 : List Nat} (hl : l.drop n.k = c :: l2) (hc : c < 128) (h10 : c ≠ 10) {n' : NS} (hS : NumAt w' E ib n'.inv (p0 ++ encs (l.take n.k) ++ enc c) l2 (er n'.ok) m) (hF : GF E w w')
    (hk : n'.k = n.k + 1) (hb : n'.base = 2 ∨ n'.base = 8 ∨ n'.base = 10 ∨ n'.base = 16) (hp : n'.pre = 0 ∨ n'.pre = 48 ∨ n'.pre = 120 ∨ n'.pre = 111 ∨ n'.pre = 98) (hkd : n'.kind ≤ 2) : NSt w0 w' E ib p0 l m n' := by
  have hlen := congrArg List.length hl
  simp only [List.length_drop, List.length_cons] at hlen
  have hlt : n.k < l.length := by omega
  have hg := hl
  rw [List.drop_eq_getElem_cons hlt] at hg
  injection hg with g1 g2
  have he := enc_ascii c hc
  have e1 : p0 ++ encs (l.take n'.k) = p0 ++ encs (l.take n.k) ++ enc c := by
    rw [hk, List.take_succ_eq_append_getElem hlt, encs_append, g1]; simp [encs]
  refine ⟨?_, h.gf.trans hF, ?_, ?_, by omega, hb, hp, hkd⟩
  · rw [e1, hk, g2]; exact hS
  · rw [e1]
    intro b hb
    rcases List.mem_append.1 hb with hb | hb
    · exact h.nt b hb
    · rw [he] at hb
      simp at hb
      subst hb
      intro e
      have := congrArg UInt8.toNat e
      simp at this; omega
  · rw [e1, List.length_append, h.len, he, hk]; simp; omega
/-- Nothing read. -/
theorem NSt.same (h : NSt w0 w E ib p0 l m n) {n' : NS} (hS : NumAt w' E ib n'.inv (p0 ++ encs (l.take n.k)) (l.drop n.k) (er n'.ok) m) (hF : GF E w w') (hk : n'.k = n.k)
    (hb : n'.base = 2 ∨ n'.base = 8 ∨ n'.base = 10 ∨ n'.base = 16) (hp : n'.pre = 0 ∨ n'.pre = 48 ∨ n'.pre = 120 ∨ n'.pre = 111 ∨ n'.pre = 98) (hkd : n'.kind ≤ 2) : NSt w0 w' E ib p0 l m n' :=
  ⟨by rw [hk]; exact hS, h.gf.trans hF, by rw [hk]; exact h.nt, by rw [hk]; exact h.len, by rw [hk]; exact h.le, hb, hp, hkd⟩
/-- A row of digits read. -/
theorem NSt.digs (h : NSt w0 w E ib p0 l m n) {hex : Bool} {base : Nat} {r : DR} {p' : List UInt8} {l' : List Nat} (hD : DgDone hex base (p0 ++ encs (l.take n.k)) (l.drop n.k) n.inv r p' l') {n' : NS} (hS : NumAt w' E ib n'.inv p' l' (er n'.ok) m) (hF : GF E w w')
    (hA : (encs ((l.drop n.k).take r.k)).length = r.k) (hk : n'.k = n.k + r.k) (hb : n'.base = 2 ∨ n'.base = 8 ∨ n'.base = 10 ∨ n'.base = 16) (hp : n'.pre = 0 ∨ n'.pre = 48 ∨ n'.pre = 120 ∨ n'.pre = 111 ∨ n'.pre = 98) (hkd : n'.kind ≤ 2) : NSt w0 w' E ib p0 l m n' := by
  obtain ⟨d1, d2, d3, d4, d5⟩ := hD
  have e1 : p0 ++ encs (l.take n'.k) = p' := by
    rw [hk, d2, take_split l n.k r.k, List.append_assoc]
  have e2 : l.drop n'.k = l' := by rw [hk, d3, List.drop_drop]
  have hle := h.le
  simp only [List.length_drop] at d4
  refine ⟨?_, h.gf.trans hF, ?_, ?_, by omega, hb, hp, hkd⟩
  · rw [e1, e2]; exact hS
  · rw [e1]; exact d5
  · rw [e1, d2, List.length_append, h.len, hA, hk]; omega
where
  take_split (l : List Nat) (k j : Nat) : encs (l.take (k + j)) = encs (l.take k) ++ encs ((l.drop k).take j) := by rw [List.take_add, encs_append]
end
/-- Digits are bytes. -/
theorem digR_ascii (hex : Bool) (base : Nat) : ∀ (pos : Nat) (l : List Nat) (hd hs : Bool) (inv : Int), (encs (l.take (digR hex base pos l hd hs inv).k)).length = (digR hex base pos l hd hs inv).k := by
  intro pos l
  induction l generalizing pos with
  | nil => intro hd hs inv; simp [digR, encs]
  | cons c l ih =>
    intro hd hs inv
    unfold digR
    split
    · rename_i h
      subst h
      simp only [DR.add, List.take_succ_cons, encs, List.length_append]
      rw [ih, enc_ascii 95 (by omega)]; simp; omega
    · split
      · rename_i h
        simp only [DR.add, List.take_succ_cons, encs, List.length_append]
        rw [ih, enc_ascii c (dgt_lt h)]; simp; omega
      · simp [encs]
end Go.Proofs.YtnehkpoggkfikaaDoor
