/-
  The doors that read one token, and the raw string's part. Conditions: each law's own.
-/
import Derived.Test.YtnehkpoggkfikaaDoorParts
import Derived.Test.YtnehkpoggkfikaaDoorPart
namespace Go.Proofs.YtnehkpoggkfikaaDoor
open Go.RowKit
set_option linter.unusedVariables false

theorem ScanAt.told_le {w : World} {E : Env} {p : List UInt8} {l : List Nat} {n : Nat} {xs : List Value} (h : ScanAt w E p l n xs) : n ≤ 100000 :=
  let ⟨_, h, _⟩ := h; h.told.n
theorem Keeps.row {pb : Nat} {w w' : World} (h : Keeps pb w w') {B size n : Nat} {e : TypeId} {v : Value} {xs : List Value} (hv : w.ownsRow B e size v n xs) (hB : pb < B) : w'.ownsRow B e size v n xs := by
  obtain ⟨h1, h2⟩ := hv
  refine ⟨h1, ?_⟩
  rcases h2 with h2 | ⟨g, cap, cur, hv, hg, hb, r⟩
  · exact Or.inl h2
  · exact Or.inr ⟨g, cap, cur, hv, hg, (h.block g (Array.getElem?_eq_some_iff.1 hb).1 (by omega)).trans hb, r⟩

/-- zzOf behind a literal. -/
theorem zzOf_lit (E : Env) (pb : Nat) (hpb : E.pb = pb) (p : List UInt8) (rest : List Nat) (l : List Note) (mode l0 k0 kind : Int) (bad : Bool) (w : World) (h : LitAt w E p rest l.length (cellsU l) mode l0 k0 kind bad) (hk : 0 ≤ kind ∧ kind < 256)
    (v0 v1 v2 v3 : Value) (p0 : w.cell? ⟨pb, 0, none⟩ = some v0) (p1 : w.cell? ⟨pb, 1, none⟩ = some v1) (p2 : w.cell? ⟨pb, 2, none⟩ = some v2) (p3 : w.cell? ⟨pb, 3, none⟩ = some v3) :
    Calls Tryd.prog 56 #[.pointer (some ⟨E.c.sb, 0, none⟩), .pointer (some ⟨pb, 0, none⟩)] w fun e w' =>
      ∃ ta tc, e = .returned (.agg #[.string ⟨p.toArray⟩, .int .i64 kind, .bool bad, .int .i32 (chOf rest), .slice ta l.length tc]) ∧ w'.ownsRow E.B 61 3 (.slice ta l.length tc) l.length (cellsU l) ∧ Keeps pb w w' := by
  subst hpb
  obtain ⟨s, hS, ha⟩ := h.scan
  obtain ⟨v, h4, hv⟩ := hS.told.cell
  obtain ⟨ta, tc, rfl⟩ := ownsRow_slice hv
  refine (zzOf_calls E.c.sb E.pb ⟨p.toArray⟩ kind (chOf rest) bad ta l.length tc w v0 v1 v2 v3 h.lit h.kind h.bad h.scan.ch p0 p1 p2 p3 h4 hS.told.fz hS.ok.p1 hk).mono ?_
  rintro e w' ⟨rfl, hK⟩
  exact ⟨ta, tc, rfl, hK.row hv hS.told.b1, hK⟩

/-- What a door gives: a part, and what is told. -/
def ZZPost (lit : List UInt8) (kind : Int) (bad : Bool) (ch : Int) (l : List Note) (w : World) (e : Ending) (w' : World) : Prop :=
  ∃ ta tc B, e = .returned (.agg #[.string ⟨lit.toArray⟩, .int .i64 kind, .bool bad, .int .i32 ch, .slice ta l.length tc]) ∧ w'.ownsRow B 61 3 (.slice ta l.length tc) l.length (cellsU l) ∧ Below w.heap.size w w'
/-- What a token is: its bytes, the characters behind it, its kind, whether it is bad, what is told. -/
abbrev Tok := List UInt8 → List Nat → Int → Bool → List Note → Prop
def TokPost (R : Tok) (E : Env) (mode l0 k0 : Int) (w : World) (e : Ending) (w' : World) : Prop :=
  e = .returned (.tuple #[]) ∧ TK E w w' ∧ ∃ p rest kind bad ns, R p rest kind bad ns ∧ (0 ≤ kind ∧ kind < 256) ∧ LitAt w' E p rest ns.length (cellsU ns) mode l0 k0 kind bad
def DoorPost (R : Tok) (w : World) (e : Ending) (w' : World) : Prop := ∃ p rest kind bad ns, R p rest kind bad ns ∧ ns.length ≤ 100000 ∧ ZZPost p kind bad (chOf rest) ns w e w'
/-- A raw string. -/
def RawIs (l : List Nat) : Tok := fun p rest kind bad ns => kind = 4 ∧
  ((∃ pre, l = pre ++ 96 :: rest ∧ 96 ∉ pre ∧ p = enc 96 ++ encs pre ++ enc 96 ∧ bad = false ∧ ns = []) ∨ (96 ∉ l ∧ p = enc 96 ++ encs l ∧ rest = [] ∧ bad = true ∧ ns.length = 1))
theorem raw_tok {E : Env} {l : List Nat} {mode l0 k0 : Int} {w : World} {e : Ending} {w' : World} (h : RawPost E l 0 [] mode l0 k0 w e w') : TokPost (RawIs l) E mode l0 k0 w e w' := by
  obtain ⟨he, hT, ⟨pre, post, a, b, hL⟩ | ⟨a, x, y, m, hL⟩⟩ := h
  · exact ⟨he, hT, _, _, _, _, [], ⟨rfl, .inl ⟨pre, a, b, rfl, rfl, rfl⟩⟩, by omega, hL⟩
  · exact ⟨he, hT, _, _, _, _, [(x, y, m)], ⟨rfl, .inr ⟨a, rfl, rfl, rfl, rfl⟩⟩, by omega, hL⟩

/-- A door's memory as it begins: the result's block, the part's. -/
def doorW (w : World) : World := (w.alloc part0).alloc part0
structure DoorAt (w : World) (ea : Addr) (T : List UInt8) (xb : Nat) : Prop where
  glob : Glob (doorW w) ea
  src : ∀ j v, (bytesV T)[j]? = some v → (doorW w).cell? ⟨xb, j, none⟩ = some v
  size : (doorW w).heap.size = w.heap.size + 2
  p0 : (doorW w).cell? ⟨w.heap.size + 1, 0, none⟩ = some (.string ⟨#[]⟩)
  p1 : (doorW w).cell? ⟨w.heap.size + 1, 1, none⟩ = some (.int .i64 0)
  p2 : (doorW w).cell? ⟨w.heap.size + 1, 2, none⟩ = some (.bool false)
  p3 : (doorW w).cell? ⟨w.heap.size + 1, 3, none⟩ = some (.int .i32 0)
  p4 : (doorW w).cell? ⟨w.heap.size + 1, 4, none⟩ = some (.slice none 0 0)
  pf : ∀ i, (doorW w).frozen? ⟨w.heap.size + 1, i, none⟩ = false
  res : (doorW w).heap[w.heap.size]? = some part0
  old : Below w.heap.size w (doorW w)
theorem glob_alloc {w : World} {ea : Addr} (h : Glob w ea) (o : Obj) : Glob (w.alloc o) ea :=
  ⟨alloc_cell o h.eof, fun i hi => alloc_cell o (h.tabs.1 i hi), fun i hi => ⟨alloc_cell o (h.tabs.2 i hi).1, alloc_cell o (h.tabs.2 i hi).2⟩⟩
theorem doorAt {w : World} {ea : Addr} {T : List UInt8} {xb : Nat} (hG : Glob w ea) (hs : ∀ j v, (bytesV T)[j]? = some v → w.cell? ⟨xb, j, none⟩ = some v) : DoorAt w ea T xb := by
  have hsz : (w.alloc part0).heap.size = w.heap.size + 1 := by simp
  obtain ⟨a0, a1, a2, a3, a4⟩ := part0_cells (w.alloc part0)
  rw [hsz] at a0 a1 a2 a3 a4
  refine ⟨glob_alloc (glob_alloc hG _) _, fun j v h => alloc_cell _ (alloc_cell _ (hs j v h)), by simp [doorW], a0, a1, a2, a3, a4, fun i => ?_, ?_, ((Below.refl _ _).alloc (Nat.le_refl _) _).alloc (by simp) _⟩
  · have := part0_frozen (w.alloc part0) i
    rw [hsz] at this; exact this
  · show ((w.heap.push _).push _)[_]? = _
    rw [Array.getElem?_push, if_neg (by simp), Array.getElem?_push, if_pos rfl]

/-- What stands at a door's end, ahead of the result's store. -/
structure DoorEnd (w : World) (w4 : World) : Prop where
  r0 : w4.cell? ⟨w.heap.size, 0, none⟩ = some (.string ⟨#[]⟩)
  r1 : w4.cell? ⟨w.heap.size, 1, none⟩ = some (.int .i64 0)
  r2 : w4.cell? ⟨w.heap.size, 2, none⟩ = some (.bool false)
  r3 : w4.cell? ⟨w.heap.size, 3, none⟩ = some (.int .i32 0)
  r4 : w4.cell? ⟨w.heap.size, 4, none⟩ = some (.slice none 0 0)
  rf : ∀ i, w4.frozen? ⟨w.heap.size, i, none⟩ = false
  below : Below w.heap.size w w4
theorem opened_keeps {w : World} {m : Int} {l : List Nat} {E : Env} {w2 w3 : World} (hO : Opened (doorW w) (w.heap.size + 1) m l E w2) (hT : TK E w2 w3) (hs : (doorW w).heap.size = w.heap.size + 2) : Keeps (w.heap.size + 1) (doorW w) w3 := by
  have e := hO.pb
  have s := hO.s
  have b := hO.b
  have r := hO.r
  have B := hO.B
  have z := hO.below.size
  exact ⟨fun k hk hp => (hT.block k (by omega) (by omega) (by omega) (by omega) (by omega)).trans (hO.below.block k hk), Nat.le_trans z hT.size, hT.os.trans hO.below.os, hT.tape.trans hO.below.tape, hT.output.trans hO.below.output⟩
theorem doorEnd {w : World} {ea : Addr} {T : List UInt8} {xb : Nat} {w3 w4 : World} (hD : DoorAt w ea T xb) (h3 : Keeps (w.heap.size + 1) (doorW w) w3) (h4 : Keeps (w.heap.size + 1) w3 w4) : DoorEnd w w4 := by
  have hs := hD.size
  have z3 := h3.size
  have old : ∀ k, k < w.heap.size + 2 → k ≠ w.heap.size + 1 → w4.heap[k]? = (doorW w).heap[k]? := fun k hk hp => (h4.block k (by omega) hp).trans (h3.block k (by omega) hp)
  have R : w4.heap[w.heap.size]? = some part0 := (old _ (by omega) (by omega)).trans hD.res
  have C : ∀ i, w4.cell? ⟨w.heap.size, i, none⟩ = #[Value.string ⟨#[]⟩, .int .i64 0, .bool false, .int .i32 0, .slice none 0 0][i]? := fun i => by unfold World.cell?; rw [R]; rfl
  refine ⟨C 0, C 1, C 2, C 3, C 4, fun i => ?_, (h4.os.trans h3.os).trans hD.old.os, (h4.tape.trans h3.tape).trans hD.old.tape, (h4.output.trans h3.output).trans hD.old.output, Nat.le_trans hD.old.size (Nat.le_trans h3.size h4.size), fun k hk => (old k (by omega) (by omega)).trans (hD.old.block k hk)⟩
  unfold World.frozen?
  rw [R]
  simp [part0]

theorem part_cells {w : World} {ea : Addr} {T : List UInt8} {xb : Nat} {m : Int} {l : List Nat} {E : Env} {w2 w3 : World} (hD : DoorAt w ea T xb) (hO : Opened (doorW w) (w.heap.size + 1) m l E w2) (hT : TK E w2 w3) :
    w3.cell? ⟨w.heap.size + 1, 0, none⟩ = some (.string ⟨#[]⟩) ∧ w3.cell? ⟨w.heap.size + 1, 1, none⟩ = some (.int .i64 0) ∧ w3.cell? ⟨w.heap.size + 1, 2, none⟩ = some (.bool false) ∧ w3.cell? ⟨w.heap.size + 1, 3, none⟩ = some (.int .i32 0) := by
  have K : ∀ i, i ≠ 4 → w3.cell? ⟨w.heap.size + 1, i, none⟩ = (doorW w).cell? ⟨w.heap.size + 1, i, none⟩ := fun i hi => by
    have := hT.part i hi
    rw [hO.pb] at this
    exact this.trans (hO.below.cell (p := ⟨w.heap.size + 1, i, none⟩) (by show _ < _; rw [hD.size]; show w.heap.size + 1 < _; omega))
  exact ⟨(K 0 (by omega)).trans hD.p0, (K 1 (by omega)).trans hD.p1, (K 2 (by omega)).trans hD.p2, (K 3 (by omega)).trans hD.p3⟩
theorem row_set {w : World} {B b i n size : Nat} {e : TypeId} {v x : Value} {xs : List Value} (h : w.ownsRow B e size v n xs) (hb : b < B) : (w.setCell ⟨b, i, none⟩ x).ownsRow B e size v n xs := ownsRow_setCell_below h hb _

set_option maxRecDepth 100000 in
set_option maxHeartbeats 1000000 in
theorem zzRaw_calls (xb xn xc : Nat) (l : List Nat) (ea : Addr) (w : World) (hG : Glob w ea) (hok : okAll (96 :: l)) (hn : xn = (encs (96 :: l)).length) (hmax : (xn : Int) ≤ 1900) (hxc : (xn : Int) ≤ xc) (hw : 12 ≤ w.heap.size)
    (hsrc : ∀ j v, (bytesV (encs (96 :: l)))[j]? = some v → w.cell? ⟨xb, j, none⟩ = some v) :
    Calls Tryd.prog 36 #[.slice (some ⟨xb, 0, none⟩) xn xc] w (DoorPost (RawIs l) w) := by
  have HD := Lib.hid (doorAt hG hsrc)
  have HOK := Lib.hid hok
  have HN := Lib.hid hn
  clear hG hsrc hok hn
  go_enter Tryd.func36, Tryd.ntmps36
  go_wp2_with (go_at_call 54; refine (zzAt_calls xb xn xc (w.heap.size + 1) 96 l ea 0 (doorW w) HD.out.glob HOK.out HN.out hmax hxc HD.out.src (by rw [HD.out.size]; omega) (by omega) HD.out.p4 HD.out.pf).mono ?_; rintro e w2 ⟨E, rfl, hO⟩; have hO := Lib.hid hO)
  refine (rawString_calls E l 0 [] 0 1 1 w2 hO.out.at_ (by omega) hO.out.tail).mono ?_
  rintro e w3 hpost
  obtain ⟨rfl, hT, p, rest, kind, bad, ns, hR, hk, hL⟩ := raw_tok hpost
  have hK := Lib.hid (opened_keeps hO.out hT HD.out.size)
  have hns : Hid (ns.length ≤ 100000) := hL.scan.told_le
  have hL := Lib.hid hL
  have hR := Lib.hid hR
  have hC := Lib.hid (part_cells HD.out hO.out hT)
  have hB := Lib.hid hO.out.pb
  have hB2 := Lib.hid hO.out.B
  clear hpost hT hO
  go_wp2_with (go_at_call 56; refine (zzOf_lit E (w.heap.size + 1) hB.out p rest ns 0 1 1 kind bad w3 hL.out hk _ _ _ _ hC.out.1 hC.out.2.1 hC.out.2.2.1 hC.out.2.2.2).mono ?_; rintro e w4 ⟨ta, tc, rfl, hrow, hK4⟩; have hEnd := doorEnd HD.out hK.out hK4; obtain ⟨r0, r1, r2, r3, r4, rf, hBel⟩ := hEnd; have hrow := Lib.hid hrow; have hBel := Lib.hid hBel; clear hK4)
  refine bodyPost_ret (v := .agg #[.string ⟨p.toArray⟩, .int .i64 kind, .bool bad, .int .i32 (chOf rest), .slice ta ns.length tc]) (by simp [results, Tryd.results36, go_sem, r0, r1, r2, r3, r4]) rfl ?_
  have hBB : w.heap.size < E.B := by have := hB2.out; have := HD.out.size; omega
  exact ⟨p, rest, kind, bad, ns, hR.out, hns.out, ta, tc, E.B, rfl, row_set (row_set (row_set (row_set (row_set hrow.out hBB) hBB) hBB) hBB) hBB, ((((hBel.out.setCell (Nat.le_refl _) _).setCell (Nat.le_refl _) _).setCell (Nat.le_refl _) _).setCell (Nat.le_refl _) _).setCell (Nat.le_refl _) _⟩
end Go.Proofs.YtnehkpoggkfikaaDoor
