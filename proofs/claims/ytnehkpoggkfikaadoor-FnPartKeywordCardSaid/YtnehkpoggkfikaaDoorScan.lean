/-
  A scanner with what it tells: the frame of its steps, the step to the next character, and the functions that tell errors and remarks. Conditions: each law's own.
-/
import Derived.Test.YtnehkpoggkfikaaDoorTold
import Derived.Deep.RegionHeld3
namespace Go.Proofs.YtnehkpoggkfikaaDoor
open Go.RowKit
set_option linter.unusedVariables false

/-- A scanner's places: its source, the part that it fills, the captured variable of its handler, and the first place behind all of these. -/
structure Env where
  c : Cfg
  pb : Nat
  vb : Nat
  B : Nat
structure Env.ok (E : Env) : Prop where
  hv : E.c.hv = .func (.func 76) #[] #[.pointer (some ⟨E.vb, 0, none⟩)]
  s : E.c.sb < E.B
  b : E.c.bb < E.B
  r : E.c.rb < E.B
  p1 : E.pb ≠ E.c.sb
  p2 : E.pb ≠ E.c.bb
  p3 : E.pb ≠ E.c.rb
  v1 : E.vb ≠ E.c.sb
  v2 : E.vb ≠ E.c.bb
  v3 : E.vb ≠ E.c.rb
  p : 12 ≤ E.pb

structure Scan (w : World) (E : Env) (s : St) (n : Nat) (xs : List Value) : Prop where
  ok : E.ok
  src : Src w E.c s
  told : Told w E.pb E.vb E.B n xs

/-- What a step of the scanner may write. -/
structure GF (E : Env) (w w' : World) : Prop where
  os : w'.os = w.os
  tape : w'.tape = w.tape
  output : w'.output = w.output
  size : w.heap.size ≤ w'.heap.size
  block : ∀ k, k < E.B → k ≠ E.c.sb → k ≠ E.c.bb → k ≠ E.c.rb → k ≠ E.pb → w'.heap[k]? = w.heap[k]?
  tail : ∀ i, 11 ≤ i → w'.cell? ⟨E.c.sb, i, none⟩ = w.cell? ⟨E.c.sb, i, none⟩
  fz : ∀ i, w'.frozen? ⟨E.c.sb, i, none⟩ = w.frozen? ⟨E.c.sb, i, none⟩
  part : ∀ i, i ≠ 4 → w'.cell? ⟨E.pb, i, none⟩ = w.cell? ⟨E.pb, i, none⟩

theorem GF.refl (E : Env) (w : World) : GF E w w := ⟨rfl, rfl, rfl, Nat.le_refl _, fun _ _ _ _ _ _ => rfl, fun _ _ => rfl, fun _ => rfl, fun _ _ => rfl⟩
theorem GF.trans {E : Env} {u v w : World} (h : GF E u v) (k : GF E v w) : GF E u w :=
  ⟨k.os.trans h.os, k.tape.trans h.tape, k.output.trans h.output, Nat.le_trans h.size k.size, fun j a1 a2 a3 a4 a5 => (k.block j a1 a2 a3 a4 a5).trans (h.block j a1 a2 a3 a4 a5),
    fun i hi => (k.tail i hi).trans (h.tail i hi), fun i => (k.fz i).trans (h.fz i), fun i hi => (k.part i hi).trans (h.part i hi)⟩
theorem GF.drewN {E : Env} {u w : World} (h : GF E u w) (n : Nat) : GF E u (w.drewN n) := ⟨h.os, h.tape, h.output, h.size, h.block, h.tail, h.fz, h.part⟩
theorem GF.drew {E : Env} {u w : World} (h : GF E u w) : GF E u w.drew := ⟨h.os, h.tape, h.output, h.size, h.block, h.tail, h.fz, h.part⟩

theorem Fr.gf {E : Env} (ok : E.ok) {w w' : World} (h : Fr E.c w w') (hB : E.B ≤ w.heap.size) (hp : E.pb < E.B) : GF E w w' :=
  ⟨h.os, h.tape, h.output, h.size, fun k a1 a2 a3 a4 _ => h.block k (by omega) a2 a3 a4, h.cells, h.fz,
    fun i _ => World.cell?_of_block (w := w) (h.block E.pb (by omega) ok.p1 ok.p2 ok.p3)⟩
theorem TF.gf {E : Env} (ok : E.ok) {w w' : World} (h : TF E.B E.pb w w') : GF E w w' :=
  ⟨h.os, h.tape, h.output, h.size, fun k a1 _ _ _ a5 => h.block k a1 a5,
    fun i _ => World.cell?_of_block (w := w) (h.block E.c.sb ok.s (Ne.symm ok.p1)), fun i => World.frozen?_of_block (w := w) (h.block E.c.sb ok.s (Ne.symm ok.p1)), h.cells⟩

theorem ownsRow_of_block {w w' : World} {base size n : Nat} {e : TypeId} {v : Value} {xs : List Value} (h : w.ownsRow base e size v n xs) (hb : ∀ g, base ≤ g → g < w.heap.size → w'.heap[g]? = w.heap[g]?) :
    w'.ownsRow base e size v n xs := by
  obtain ⟨h1, h2⟩ := h
  refine ⟨h1, ?_⟩
  rcases h2 with h2 | ⟨g, cap, cur, hv, hg, hh, r⟩
  · exact Or.inl h2
  · exact Or.inr ⟨g, cap, cur, hv, hg, by rw [hb g hg (Array.getElem?_eq_some_iff.1 hh).1]; exact hh, r⟩

/-- What is told stays through a step of the source. -/
theorem Told.fr {E : Env} (ok : E.ok) {w w' : World} {n : Nat} {xs : List Value} (h : Told w E.pb E.vb E.B n xs) (hf : Fr E.c w w') : Told w' E.pb E.vb E.B n xs := by
  obtain ⟨h0, ⟨v, h1, hown⟩, f, hn, b1, b2, ne, hB⟩ := h
  have hp := hf.block E.pb (by omega) ok.p1 ok.p2 ok.p3
  have hv := hf.block E.vb (by omega) ok.v1 ok.v2 ok.v3
  refine ⟨(World.cell?_of_block (w := w) hv).trans h0, ⟨v, (World.cell?_of_block (w := w) hp).trans h1, ownsRow_of_block hown fun g hg hlt => ?_⟩,
    fun i => (World.frozen?_of_block (w := w) hp).trans (f i), hn, b1, b2, ne, Nat.le_trans hB hf.size⟩
  have := ok.s; have := ok.b; have := ok.r
  exact hf.block g hlt (by omega) (by omega) (by omega)

/-- The source stays through what is told. -/
theorem Src.tf {E : Env} (ok : E.ok) {w w' : World} {s : St} (h : Src w E.c s) (hf : TF E.B E.pb w w') : Src w' E.c s := by
  obtain ⟨bd, hG, cur, hR, hr⟩ := h
  have hs := hf.block E.c.sb ok.s (Ne.symm ok.p1)
  have hb := hf.block E.c.bb ok.b (Ne.symm ok.p2)
  have hrb := hf.block E.c.rb ok.r (Ne.symm ok.p3)
  have S : ∀ i, w'.cell? ⟨E.c.sb, i, none⟩ = w.cell? ⟨E.c.sb, i, none⟩ := fun i => World.cell?_of_block (w := w) hs
  have R : ∀ i, w'.cell? ⟨E.c.rb, i, none⟩ = w.cell? ⟨E.c.rb, i, none⟩ := fun i => World.cell?_of_block (w := w) hrb
  have C : ∀ k o v, k < 12 → w.cell? ⟨k, o, none⟩ = some v → w'.cell? ⟨k, o, none⟩ = some v := fun k o v hk hv => by
    rw [← hv]
    have := ok.s; have := hR.ok.2.2.2.1; have := ok.p
    exact World.cell?_of_block (w := w) (hf.block k (by omega) (by omega))
  refine ⟨bd, ⟨C _ _ _ (by omega) hG.eof, fun i hi => C _ _ _ (by omega) (hG.tabs.1 i hi), fun i hi => ⟨C _ _ _ (by omega) (hG.tabs.2 i hi).1, C _ _ _ (by omega) (hG.tabs.2 i hi).2⟩⟩, cur, ?_, hr⟩
  exact ⟨hR.ok, (S _).trans hR.c0, (S _).trans hR.c1, (S _).trans hR.c2, (S _).trans hR.c3, (S _).trans hR.c4, (S _).trans hR.c5, (S _).trans hR.c6, (S _).trans hR.c7, (S _).trans hR.c8, (S _).trans hR.c9, (S _).trans hR.c10,
    fun i => (World.frozen?_of_block (w := w) hs).trans (hR.fs i), hb.trans hR.buf, hR.len, (R _).trans hR.r0, (R _).trans hR.r1, let ⟨z, hz⟩ := hR.r2; ⟨z, (R _).trans hz⟩, fun i => (World.frozen?_of_block (w := w) hrb).trans (hR.fr i)⟩

theorem Told.drewN {w : World} {pb vb B n : Nat} {xs : List Value} (h : Told w pb vb B n xs) (k : Nat) : Told (w.drewN k) pb vb B n xs := ⟨h.box, h.cell, h.fz, h.n, h.b1, h.b2, h.ne, h.size⟩
theorem Src.drewN {w : World} {c : Cfg} {s : St} (h : Src w c s) (k : Nat) : Src (w.drewN k) c s :=
  let ⟨bd, hG, cur, hR, hr⟩ := h
  ⟨bd, ⟨hG.eof, hG.tabs⟩, cur, hR.drewN k, hr⟩
theorem Scan.drewN {w : World} {E : Env} {s : St} {n : Nat} {xs : List Value} (h : Scan w E s n xs) (k : Nat) : Scan (w.drewN k) E s n xs := ⟨h.ok, h.src.drewN k, h.told.drewN k⟩
theorem Scan.drew {w : World} {E : Env} {s : St} {n : Nat} {xs : List Value} (h : Scan w E s n xs) : Scan w.drew E s n xs := h.drewN 1

/-- The character at hand, as the walks read it. -/
theorem Scan.ch {w : World} {E : Env} {s : St} {n : Nat} {xs : List Value} (h : Scan w E s n xs) : w.cell? ⟨E.c.sb, 9, none⟩ = some (.int .i32 s.ch) := by
  obtain ⟨-, -, cur, hR, -⟩ := h.src; exact hR.c9

theorem Scan.handler {w : World} {E : Env} {s : St} {n : Nat} {xs : List Value} (h : Scan w E s n xs) : w.cell? ⟨E.c.sb, 1, none⟩ = some (.func (.func 76) #[] #[.pointer (some ⟨E.vb, 0, none⟩)]) := by
  obtain ⟨-, -, cur, hR, -⟩ := h.src; rw [← h.ok.hv]; exact hR.c1

/-- The step to the next character. -/
theorem nextch_scan (E : Env) (s : St) (n : Nat) (xs : List Value) (w : World) (h : Scan w E s n xs) :
    Calls Tryd.prog 57 #[.pointer (some ⟨E.c.sb, 0, none⟩)] w fun e w' => e = .returned (.tuple #[]) ∧ Scan w' E s.next n xs ∧ GF E w w' :=
  (nextch_any E.c s w h.src).mono fun e w' ⟨he, hS, hF⟩ => ⟨he, ⟨h.ok, hS, h.told.fr h.ok hF⟩, hF.gf h.ok h.told.size h.told.b1⟩

set_option maxRecDepth 100000 in
/-- pos: the place of the character at hand. -/
theorem pos_calls (sb line col : Nat) (w : World) (c7 : w.cell? ⟨sb, 7, none⟩ = some (.int .u64 line)) (c8 : w.cell? ⟨sb, 8, none⟩ = some (.int .u64 col)) (b1 : (line : Int) ≤ 8000) (b2 : (col : Int) ≤ 8000) :
    Calls Tryd.prog 77 #[.pointer (some ⟨sb, 0, none⟩)] w fun e w' => e = .returned (.tuple #[.int .u64 ((line : Int) + 1), .int .u64 ((col : Int) + 1)]) ∧ ∃ k, w' = w.drewN k := by
  have h1 : IntKind.u64.wrap (1 + (line : Int)) = (line : Int) + 1 := by rw [IntWalk.u64_in _ (by omega)]; omega
  have h2 : IntKind.u64.wrap (1 + (col : Int)) = (col : Int) + 1 := by rw [IntWalk.u64_in _ (by omega)]; omega
  go_enter Tryd.func77, Tryd.ntmps77
  go_wp2
  go_quiet (fail)
  go_wp2
  go_ret2
  exact ⟨rfl, _, rfl⟩

/-- One is told more: an error or a remark. -/
def More (E : Env) (s : St) (n : Nat) (xs : List Value) (m : ByteArray) (w : World) (e : Ending) (w' : World) : Prop :=
  e = .returned (.tuple #[]) ∧ (∃ l k : Int, Scan w' E s (n + 1) (xs ++ [.int .u64 l, .int .u64 k, .string m])) ∧ GF E w w'

theorem tell_scan (E : Env) (s : St) (n : Nat) (xs : List Value) (l k : Int) (m : ByteArray) (w : World) (h : Scan w E s n xs) (hn : n < 100000) :
    Calls Tryd.prog 76 #[.int .u64 l, .int .u64 k, .string m, .pointer (some ⟨E.vb, 0, none⟩)] w (More E s n xs m w) :=
  (tell_calls E.vb E.pb E.B n xs l k m w h.told hn).mono fun e w' ⟨he, hT, hF⟩ => ⟨he, ⟨l, k, h.ok, h.src.tf h.ok hF, hT⟩, hF.gf h.ok⟩
theorem More.from {E : Env} {s : St} {n : Nat} {xs : List Value} {m : ByteArray} {w u : World} {e : Ending} {w' : World} (h : More E s n xs m w e w') (hg : GF E u w) : More E s n xs m u e w' := ⟨h.1, h.2.1, hg.trans h.2.2⟩

set_option maxRecDepth 100000 in
set_option maxHeartbeats 1000000 in
/-- error. -/
theorem error_calls (E : Env) (s : St) (n : Nat) (xs : List Value) (m : ByteArray) (w : World) (h : Scan w E s n xs) (hn : n < 100000) :
    Calls Tryd.prog 81 #[.pointer (some ⟨E.c.sb, 0, none⟩), .string m] w (More E s n xs m w) := by
  obtain ⟨bd, hG, cur, hR, hr⟩ := h.src
  have H := Lib.hid h
  have hl := bd.b2
  have hc := bd.b3
  have c7 := hR.c7
  have c8 := hR.c8
  have c1 := hR.c1
  rw [h.ok.hv] at c1
  clear hr hR hG h
  go_enter Tryd.func81, Tryd.ntmps81
  go_wp2_with (first | (go_at_call 77; refine (pos_calls E.c.sb s.line s.col _ c7 c8 (by omega) (by omega)).mono ?_; rintro e w' ⟨rfl, k, rfl⟩) | (go_at_call 76; refine (tell_scan E s n xs _ _ m _ (H.out.drewN _) hn).mono ?_; rintro e' w2 hm; obtain ⟨rfl, hm2⟩ := hm))
  go_end0
  exact ⟨rfl, hm2.1, ((GF.refl E w).drewN k).trans hm2.2⟩

/-- errorf. -/
theorem errorf_calls (E : Env) (s : St) (n : Nat) (xs : List Value) (m : ByteArray) (a : Option Addr) (al ac : Nat) (w : World) (h : Scan w E s n xs) (hn : n < 100000) :
    Calls Tryd.prog 91 #[.pointer (some ⟨E.c.sb, 0, none⟩), .string m, .slice a al ac] w (More E s n xs m w) := by
  have H := Lib.hid h
  clear h
  go_enter Tryd.func91, Tryd.ntmps91
  go_wp2_with (go_at_call 81; refine (error_calls E s n xs m _ H.out hn).mono ?_; rintro e' w2 hm; obtain ⟨rfl, hm2⟩ := hm)
  go_end0
  exact ⟨rfl, hm2⟩

set_option maxRecDepth 100000 in
set_option maxHeartbeats 1000000 in
/-- errorAtf. -/
theorem errorAtf_calls (E : Env) (s : St) (n : Nat) (xs : List Value) (m : ByteArray) (l0 k0 off : Int) (a : Option Addr) (al ac : Nat) (w : World) (h : Scan w E s n xs) (hn : n < 100000)
    (h13 : w.cell? ⟨E.c.sb, 13, none⟩ = some (.int .u64 l0)) (h14 : w.cell? ⟨E.c.sb, 14, none⟩ = some (.int .u64 k0)) :
    Calls Tryd.prog 79 #[.pointer (some ⟨E.c.sb, 0, none⟩), .int .i64 off, .string m, .slice a al ac] w (More E s n xs m w) := by
  obtain ⟨bd, hG, cur, hR, hr⟩ := h.src
  have H := Lib.hid h
  have c1 := hR.c1
  rw [h.ok.hv] at c1
  clear hr hR hG h bd
  go_enter Tryd.func79, Tryd.ntmps79
  go_wp2
  go_region_held3 (fun w' => w'.cell? ⟨E.c.sb, 1, none⟩ = some (.func (.func 76) #[] #[.pointer (some ⟨E.vb, 0, none⟩)]) ∧ w'.cell? ⟨E.c.sb, 13, none⟩ = some (.int .u64 l0) ∧ w'.cell? ⟨E.c.sb, 14, none⟩ = some (.int .u64 k0)) (first | exact ⟨c1, h13, h14⟩ | exact ⟨d1, d13, d14⟩)
    (first | (go_at_call 76; refine (tell_scan E s n xs _ _ m _ H.out.drew hn).mono ?_; rintro e' w2 hm; obtain ⟨rfl, hm2⟩ := hm; have d1 := hm2.1.choose_spec.choose_spec.handler; have d13 := (hm2.2.tail 13 (by omega)).trans h13; have d14 := (hm2.2.tail 14 (by omega)).trans h14))
  go_wp2
  go_end0
  exact ⟨rfl, hm2.1, ((GF.refl E w).drewN 1).trans hm2.2⟩

set_option maxRecDepth 100000 in
set_option maxHeartbeats 1000000 in
/-- comment: a remark is told. -/
theorem comment_calls (E : Env) (s : St) (n : Nat) (xs : List Value) (m : ByteArray) (l0 k0 : Int) (w : World) (h : Scan w E s n xs) (hn : n < 100000)
    (h13 : w.cell? ⟨E.c.sb, 13, none⟩ = some (.int .u64 l0)) (h14 : w.cell? ⟨E.c.sb, 14, none⟩ = some (.int .u64 k0)) :
    Calls Tryd.prog 86 #[.pointer (some ⟨E.c.sb, 0, none⟩), .string m] w (More E s n xs m w) := by
  obtain ⟨bd, hG, cur, hR, hr⟩ := h.src
  have H := Lib.hid h
  have c1 := hR.c1
  rw [h.ok.hv] at c1
  clear hr hR hG h bd
  go_enter Tryd.func86, Tryd.ntmps86
  go_wp2
  go_region_held3 (fun w' => w'.cell? ⟨E.c.sb, 1, none⟩ = some (.func (.func 76) #[] #[.pointer (some ⟨E.vb, 0, none⟩)]) ∧ w'.cell? ⟨E.c.sb, 13, none⟩ = some (.int .u64 l0) ∧ w'.cell? ⟨E.c.sb, 14, none⟩ = some (.int .u64 k0)) (first | exact ⟨c1, h13, h14⟩ | exact ⟨d1, d13, d14⟩)
    (first | (go_at_call 76; refine (tell_scan E s n xs _ _ m _ H.out.drew hn).mono ?_; rintro e' w2 hm; obtain ⟨rfl, hm2⟩ := hm; have d1 := hm2.1.choose_spec.choose_spec.handler; have d13 := (hm2.2.tail 13 (by omega)).trans h13; have d14 := (hm2.2.tail 14 (by omega)).trans h14))
  go_wp2
  go_end0
  exact ⟨rfl, hm2.1, ((GF.refl E w).drewN 1).trans hm2.2⟩

end Go.Proofs.YtnehkpoggkfikaaDoor
