/-
  A token's literal: the segment's bytes, and setLit; a segment begun and given up. Conditions: each law's own.
-/
import Derived.Test.YtnehkpoggkfikaaDoorScan
namespace Go.Proofs.YtnehkpoggkfikaaDoor
open Go.RowKit
set_option linter.unusedVariables false

/-- The scanner's fields behind its source: mode, and where the token stands. -/
structure Tail (w : World) (sb : Nat) (mode l0 k0 : Int) : Prop where
  c11 : w.cell? ⟨sb, 11, none⟩ = some (.int .u64 mode)
  c12 : ∃ b, w.cell? ⟨sb, 12, none⟩ = some (.bool b)
  c13 : w.cell? ⟨sb, 13, none⟩ = some (.int .u64 l0)
  c14 : w.cell? ⟨sb, 14, none⟩ = some (.int .u64 k0)
  c16 : ∃ n, w.cell? ⟨sb, 16, none⟩ = some (.int .u64 n)
  c17 : ∃ s, w.cell? ⟨sb, 17, none⟩ = some (.string s)
  c18 : ∃ b, w.cell? ⟨sb, 18, none⟩ = some (.bool b)
  c19 : ∃ n, w.cell? ⟨sb, 19, none⟩ = some (.int .u8 n)
theorem Tail.gf {E : Env} {w w' : World} {mode l0 k0 : Int} (h : Tail w E.c.sb mode l0 k0) (hf : GF E w w') : Tail w' E.c.sb mode l0 k0 := by
  have T := fun i (hi : 11 ≤ i) => hf.tail i hi
  obtain ⟨h11, ⟨b12, h12⟩, h13, h14, ⟨n16, h16⟩, ⟨s17, h17⟩, ⟨b18, h18⟩, ⟨n19, h19⟩⟩ := h
  exact ⟨(T 11 (by omega)).trans h11, ⟨_, (T 12 (by omega)).trans h12⟩, (T 13 (by omega)).trans h13, (T 14 (by omega)).trans h14, ⟨_, (T 16 (by omega)).trans h16⟩, ⟨_, (T 17 (by omega)).trans h17⟩, ⟨_, (T 18 (by omega)).trans h18⟩, ⟨_, (T 19 (by omega)).trans h19⟩⟩

/-- The frame of a whole token: as GF, but the fields of the token may be written. -/
structure TK (E : Env) (w w' : World) : Prop where
  os : w'.os = w.os
  tape : w'.tape = w.tape
  output : w'.output = w.output
  size : w.heap.size ≤ w'.heap.size
  block : ∀ k, k < E.B → k ≠ E.c.sb → k ≠ E.c.bb → k ≠ E.c.rb → k ≠ E.pb → w'.heap[k]? = w.heap[k]?
  part : ∀ i, i ≠ 4 → w'.cell? ⟨E.pb, i, none⟩ = w.cell? ⟨E.pb, i, none⟩
theorem GF.tk {E : Env} {w w' : World} (h : GF E w w') : TK E w w' := ⟨h.os, h.tape, h.output, h.size, h.block, h.part⟩
theorem TK.refl (E : Env) (w : World) : TK E w w := (GF.refl E w).tk
theorem TK.trans {E : Env} {u v w : World} (h : TK E u v) (k : TK E v w) : TK E u w :=
  ⟨k.os.trans h.os, k.tape.trans h.tape, k.output.trans h.output, Nat.le_trans h.size k.size, fun j a1 a2 a3 a4 a5 => (k.block j a1 a2 a3 a4 a5).trans (h.block j a1 a2 a3 a4 a5), fun i hi => (k.part i hi).trans (h.part i hi)⟩
theorem TK.drew {E : Env} {u w : World} (h : TK E u w) : TK E u w.drew := ⟨h.os, h.tape, h.output, h.size, h.block, h.part⟩
theorem TK.drewN {E : Env} {u w : World} (h : TK E u w) (n : Nat) : TK E u (w.drewN n) := ⟨h.os, h.tape, h.output, h.size, h.block, h.part⟩
theorem TK.setCell {E : Env} (hp : E.pb ≠ E.c.sb) {u w : World} (h : TK E u w) (i : Nat) (v : Value) : TK E u (w.setCell ⟨E.c.sb, i, none⟩ v) :=
  h.trans ⟨rfl, rfl, rfl, by simp [World.setCell], fun k _ h1 _ _ _ => Below.heap_setCell _ _ _ _ h1, fun j _ => World.cell?_setCell_other _ _ _ _ (fun e => hp (congrArg Addr.block e).symm)⟩

/-- A field of the token is written: the source stands. -/
theorem Src.setTail {w : World} {c : Cfg} {s : St} (h : Src w c s) (i : Nat) (hi : 11 ≤ i) (v : Value) : Src (w.setCell ⟨c.sb, i, none⟩ v) c s := by
  obtain ⟨bd, hG, cur, hR, hr⟩ := h
  have ok := hR.ok
  obtain ⟨o1, o2, o3, o4, o5, o6⟩ := hR.ok
  have S : ∀ j, j < 11 → (w.setCell ⟨c.sb, i, none⟩ v).cell? ⟨c.sb, j, none⟩ = w.cell? ⟨c.sb, j, none⟩ := fun j hj => World.cell?_setCell_other _ _ _ _ (fun e => by have := congrArg Addr.off e; simp at this; omega)
  have X : ∀ k j, k ≠ c.sb → (w.setCell ⟨c.sb, i, none⟩ v).cell? ⟨k, j, none⟩ = w.cell? ⟨k, j, none⟩ := fun k j hk => World.cell?_setCell_other _ _ _ _ (fun e => hk (congrArg Addr.block e).symm)
  refine ⟨bd, ⟨(X _ _ (by omega)).trans hG.eof, fun j hj => (X _ _ (by omega)).trans (hG.tabs.1 j hj), fun j hj => ⟨(X _ _ (by omega)).trans (hG.tabs.2 j hj).1, (X _ _ (by omega)).trans (hG.tabs.2 j hj).2⟩⟩, cur, ?_, hr⟩
  exact ⟨ok, (S _ (by omega)).trans hR.c0, (S _ (by omega)).trans hR.c1, (S _ (by omega)).trans hR.c2, (S _ (by omega)).trans hR.c3, (S _ (by omega)).trans hR.c4, (S _ (by omega)).trans hR.c5, (S _ (by omega)).trans hR.c6, (S _ (by omega)).trans hR.c7, (S _ (by omega)).trans hR.c8, (S _ (by omega)).trans hR.c9, (S _ (by omega)).trans hR.c10,
    fun j => (World.frozen?_setCell _ _ _ _).trans (hR.fs j), (Below.heap_setCell _ _ _ _ o1).trans hR.buf, hR.len, (X _ _ o2).trans hR.r0, (X _ _ o2).trans hR.r1, let ⟨z, hz⟩ := hR.r2; ⟨z, (X _ _ o2).trans hz⟩, fun j => (World.frozen?_setCell _ _ _ _).trans (hR.fr j)⟩
theorem Scan.setTail {w : World} {E : Env} {s : St} {n : Nat} {xs : List Value} (h : Scan w E s n xs) (i : Nat) (hi : 11 ≤ i) (v : Value) : Scan (w.setCell ⟨E.c.sb, i, none⟩ v) E s n xs := by
  refine ⟨h.ok, h.src.setTail i hi v, ?_⟩
  obtain ⟨h0, ⟨u, h1, hown⟩, f, hn, b1, b2, ne, hB⟩ := h.told
  refine ⟨(World.cell?_setCell_other _ _ _ _ (fun e => h.ok.v1 (congrArg Addr.block e).symm)).trans h0, ⟨u, (World.cell?_setCell_other _ _ _ _ (fun e => h.ok.p1 (congrArg Addr.block e).symm)).trans h1, ownsRow_setCell_below hown h.ok.s _⟩,
    fun i => (World.frozen?_setCell _ _ _ _).trans (f i), hn, b1, b2, ne, by simpa [World.setCell] using hB⟩

/-- The bytes of the active segment, without the character at hand. -/
def St.seg (s : St) : List UInt8 := s.all.take (s.all.length - s.chw)

theorem Src.seg_cells {w : World} {c : Cfg} {s : St} (h : Src w c s) (ha : s.act = true) (hw : s.chw ≤ s.all.length) : ∀ j (hj : j < s.seg.length), w.cell? ((⟨c.bb, 0, none⟩ : Addr).add j) = some (.int .u8 ((s.seg[j]).toNat : Int)) := by
  obtain ⟨-, -, cur, hR, -, -, hact⟩ := h
  obtain ⟨h1, h2⟩ := hact ha
  intro j hj
  have hj' : j < s.all.length := by unfold St.seg at hj; simp at hj; omega
  have := hR.byte (h2 j hj')
  rw [Nat.zero_add] at this
  have e : s.seg[j] = s.all[j] := List.getElem_take
  rw [e]
  by_cases e0 : j = 0
  · subst e0; simpa [Addr.add] using this
  · simpa [Addr.add, e0] using this

set_option maxRecDepth 100000 in
set_option maxHeartbeats 1000000 in
/-- segment. -/
theorem segment_calls (c : Cfg) (s : St) (w : World) (h : Src w c s) (ha : s.act = true) (hw : s.chw ≤ s.all.length) :
    Calls Tryd.prog 87 #[.pointer (some ⟨c.sb, 0, none⟩)] w fun e w' => e = .returned (.slice (some ⟨c.bb, 0, none⟩) s.seg.length 4096) ∧ ∃ k, w' = w.drewN k := by
  obtain ⟨bd, hG, cur, hR, -, -, hact⟩ := h
  obtain ⟨h1, h2⟩ := hact ha
  have hl : s.seg.length = s.r - s.chw := by unfold St.seg; simp; omega
  obtain ⟨b1, b4⟩ : s.r ≤ 2000 ∧ s.chw ≤ 4 := ⟨by have := bd.b1; omega, bd.b4⟩
  have c2 := hR.c2
  have c4 := hR.c4
  have c5 := hR.c5
  have c10 := hR.c10
  rw [ha] at c4
  simp only [if_true] at c4
  rw [hl]
  have e1 : IntKind.i64.wrap ((s.r : Int) - (s.chw : Int)) = ((s.r - s.chw : Nat) : Int) := by rw [IntWalk.i64_in _ (by omega)]; omega
  have hm : ((s.r - s.chw : Nat) : Int) ≤ 4096 := by omega
  generalize s.r - s.chw = m at *
  clear hR hG h1 h2 hact hl bd
  go_enter Tryd.func87, Tryd.ntmps87
  go_wp2
  go_quiet (fail)
  go_wp2
  go_ret
  exact ⟨rfl, _, rfl⟩

/-- What setLit leaves. -/
structure LitDone (w : World) (E : Env) (s : St) (n : Nat) (xs : List Value) (mode l0 k0 kind : Int) (lit : List UInt8) (bad : Bool) : Prop where
  scan : Scan w E s n xs
  tail : Tail w E.c.sb mode l0 k0
  lit : w.cell? ⟨E.c.sb, 17, none⟩ = some (.string ⟨lit.toArray⟩)
  bad : w.cell? ⟨E.c.sb, 18, none⟩ = some (.bool bad)
  kind : w.cell? ⟨E.c.sb, 19, none⟩ = some (.int .u8 kind)

set_option maxRecDepth 100000 in
set_option maxHeartbeats 1000000 in
/-- setLit. -/
theorem setLit_calls (E : Env) (s : St) (n : Nat) (xs : List Value) (mode l0 k0 kind : Int) (ok : Bool) (w : World) (h : Scan w E s n xs) (ht : Tail w E.c.sb mode l0 k0) (ha : s.act = true) (hw : s.chw ≤ s.all.length) :
    Calls Tryd.prog 80 #[.pointer (some ⟨E.c.sb, 0, none⟩), .int .u8 kind, .bool ok] w fun e w' => e = .returned (.tuple #[]) ∧ LitDone w' E s n xs mode l0 k0 kind s.seg (!ok) ∧ TK E w w' := by
  have H := Lib.hid h
  have HT := Lib.hid ht
  have fs : ∀ i, w.frozen? ⟨E.c.sb, i, none⟩ = false := by obtain ⟨-, -, cur, hR, -⟩ := h.src; exact hR.fs
  obtain ⟨h11, ⟨b12, h12⟩, h13, h14, ⟨n16, h16⟩, ⟨s17, h17⟩, ⟨b18, h18⟩, ⟨n19, h19⟩⟩ := ht
  have S1 := (h.setTail 12 (by omega) (.bool true)).setTail 16 (by omega) (.int .u64 3)
  have HS := Lib.hid S1
  have hconv : ∀ q, Sem.run Tryd.prog (convert 41 9 (.slice (some ⟨E.c.bb, 0, none⟩) s.seg.length 4096)) ((((w.setCell ⟨E.c.sb, 12, none⟩ (.bool true)).setCell ⟨E.c.sb, 16, none⟩ (.int .u64 3))).drewN q) = .ok (.string ⟨s.seg.toArray⟩) ((((w.setCell ⟨E.c.sb, 12, none⟩ (.bool true)).setCell ⟨E.c.sb, 16, none⟩ (.int .u64 3))).drewN q) := fun q =>
    run_convert_bytes_back (P := Tryd.prog) _ 41 9 5 ⟨E.c.bb, 0, none⟩ 4096 s.seg Tryd.underlying41 Tryd.underlying5 Tryd.underlying9 ((S1.src.drewN q).seg_cells ha hw)
  clear h S1 h11 h13 h14
  go_enter Tryd.func80, Tryd.ntmps80
  go_wp2_with (go_at_call 87; refine (segment_calls E.c s _ (by exact HS.out.src) ha hw).mono ?_; rintro e w' ⟨rfl, q, rfl⟩)
  go_end0
  have t11 := HT.out.c11
  have t13 := HT.out.c13
  have t14 := HT.out.c14
  refine ⟨rfl, ⟨?_, ⟨by go_simp, ⟨true, by go_simp⟩, by go_simp, by go_simp, ⟨3, by go_simp⟩, ⟨_, by go_simp; rfl⟩, ⟨!ok, by go_simp⟩, ⟨_, by go_simp; rfl⟩⟩, by go_simp, by go_simp, by go_simp⟩, ?_⟩
  · exact (((HS.out.drewN _).setTail 17 (by omega) _).setTail 18 (by omega) _).setTail 19 (by omega) _
  · exact (((((((TK.refl E w).setCell H.out.ok.p1 12 _).setCell H.out.ok.p1 16 _).drewN _).setCell H.out.ok.p1 17 _).setCell H.out.ok.p1 18 _).setCell H.out.ok.p1 19 _)

/-- The segment given up. -/
def St.stop (s : St) : St := { s with act := false }
theorem stop_calls (E : Env) (s : St) (n : Nat) (xs : List Value) (w : World) (h : Scan w E s n xs) (hp : 0 < s.r) :
    Calls Tryd.prog 88 #[.pointer (some ⟨E.c.sb, 0, none⟩)] w fun e w' => e = .returned (.tuple #[]) ∧ Scan w' E s.stop n xs ∧ GF E w w' := by
  have H := Lib.hid h
  obtain ⟨bd, hG, cur, hR, h1, h2, h3⟩ := h.src
  have c4 := hR.c4
  have fs := hR.fs
  have HR := Lib.hid hR
  have HG := Lib.hid hG
  clear h hR hG
  go_enter Tryd.func88, Tryd.ntmps88
  go_wp2
  go_end0
  have hF : Fr E.c w (w.setCell ⟨E.c.sb, 4, none⟩ (.int .i64 (-1))) := (Fr.refl E.c w).setCell (.inl ⟨rfl, by simp⟩) _
  refine ⟨rfl, ⟨H.out.ok, ⟨⟨bd.ok, bd.fin, fun _ _ => hp, bd.b1, bd.b2, bd.b3, bd.b4⟩, HG.out.fr HR.out.ok hF, cur, HR.out.set4 (-1), h1, h2, fun h => Bool.noConfusion h⟩, H.out.told.fr H.out.ok hF⟩, hF.gf H.out.ok H.out.told.size H.out.told.b1⟩

end Go.Proofs.YtnehkpoggkfikaaDoor
