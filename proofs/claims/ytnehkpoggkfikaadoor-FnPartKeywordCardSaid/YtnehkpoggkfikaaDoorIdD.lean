/-
  The door of names, and the thin package's reader of it. Conditions: each law's own.
-/
import Derived.Test.YtnehkpoggkfikaaDoorIdW
namespace Go.Proofs.YtnehkpoggkfikaaDoor
open Go.RowKit
set_option linter.unusedVariables false

/-- What is held of a part's block behind zzOf. -/
structure PartAt (w : World) (pb : Nat) (lit : ByteArray) (kind ch : Int) (bad : Bool) (v : Value) : Prop where
  c0 : w.cell? ⟨pb, 0, none⟩ = some (.string lit)
  c1 : w.cell? ⟨pb, 1, none⟩ = some (.int .i64 kind)
  c2 : w.cell? ⟨pb, 2, none⟩ = some (.bool bad)
  c3 : w.cell? ⟨pb, 3, none⟩ = some (.int .i32 ch)
  c4 : w.cell? ⟨pb, 4, none⟩ = some v
  fz : ∀ i, w.frozen? ⟨pb, i, none⟩ = false
set_option maxRecDepth 100000 in
set_option maxHeartbeats 1000000 in
/-- zzOf, and the part's block behind it. -/
theorem zzOf_part (sb pb : Nat) (lit : ByteArray) (kind ch : Int) (bad : Bool) (ta : Option Addr) (tl tc : Nat) (w : World) (v0 v1 v2 v3 : Value)
    (h17 : w.cell? ⟨sb, 17, none⟩ = some (.string lit)) (h19 : w.cell? ⟨sb, 19, none⟩ = some (.int .u8 kind)) (h18 : w.cell? ⟨sb, 18, none⟩ = some (.bool bad)) (h9 : w.cell? ⟨sb, 9, none⟩ = some (.int .i32 ch))
    (p0 : w.cell? ⟨pb, 0, none⟩ = some v0) (p1 : w.cell? ⟨pb, 1, none⟩ = some v1) (p2 : w.cell? ⟨pb, 2, none⟩ = some v2) (p3 : w.cell? ⟨pb, 3, none⟩ = some v3) (p4 : w.cell? ⟨pb, 4, none⟩ = some (.slice ta tl tc))
    (pf : ∀ i, w.frozen? ⟨pb, i, none⟩ = false) (hne : pb ≠ sb) (hk : 0 ≤ kind ∧ kind < 256) :
    Calls Tryd.prog 56 #[.pointer (some ⟨sb, 0, none⟩), .pointer (some ⟨pb, 0, none⟩)] w fun e w' =>
      e = .returned (.agg #[.string lit, .int .i64 kind, .bool bad, .int .i32 ch, .slice ta tl tc]) ∧ Keeps pb w w' ∧ PartAt w' pb lit kind ch bad (.slice ta tl tc) := by
  have hb : pb < w.heap.size := cell_lt p4
  have hs : sb < w.heap.size := cell_lt h9
  have q17 := alloc_cell part0 h17
  have q19 := alloc_cell part0 h19
  have q18 := alloc_cell part0 h18
  have q9 := alloc_cell part0 h9
  have r0 := alloc_cell part0 p0
  have r1 := alloc_cell part0 p1
  have r2 := alloc_cell part0 p2
  have r3 := alloc_cell part0 p3
  have r4 := alloc_cell part0 p4
  have rf : ∀ i, (w.alloc part0).frozen? ⟨pb, i, none⟩ = false := fun i => (alloc_frozen part0 ⟨pb, i, none⟩ hb).trans (pf i)
  obtain ⟨n0, n1, n2, n3, n4⟩ := part0_cells w
  have nf := part0_frozen w
  have hsz : Hid (Keeps pb w (w.alloc part0)) := ⟨fun k hk _ => by show (w.heap.push _)[k]? = _; rw [Array.getElem?_push, if_neg (by omega)], by simp, rfl, rfl, rfl⟩
  have hn1 : ¬ w.heap.size = pb := by omega
  have hn2 : ¬ w.heap.size = sb := by omega
  clear h17 h19 h18 h9 p0 p1 p2 p3 p4 pf
  go_enter Tryd.func56, Tryd.ntmps56
  go_wp2
  change Code.wp _ _ _ _ (w.alloc part0)
  generalize w.alloc part0 = W at *
  go_region
  go_wp2
  refine bodyPost_ret (v := .agg #[.string lit, .int .i64 kind, .bool bad, .int .i32 ch, .slice ta tl tc]) (by simp [results, Tryd.results56, go_sem, n0, n1, n2, n3, n4]) rfl ?_
  refine ⟨rfl, (((((((((hsz.out.set (.inl rfl) _ _).set (.inl rfl) _ _).set (.inl rfl) _ _).set (.inl rfl) _ _).set (.inr (Nat.le_refl _)) _ _).set (.inr (Nat.le_refl _)) _ _).set (.inr (Nat.le_refl _)) _ _).set (.inr (Nat.le_refl _)) _ _).set (.inr (Nat.le_refl _)) _ _).drew, ⟨?_, ?_, ?_, ?_, ?_, fun i => ?_⟩⟩
  all_goals go_simp

/-- What a name or a keyword is told as: the word, the literal. -/
def IdRes (lit : List UInt8) (word l17 : ByteArray) : Prop :=
  (∃ t : Nat, 22 ≤ t ∧ t ≤ 46 ∧ (⟨lit.toArray⟩ : ByteArray) = kwS t ∧ word = kwS t) ∨ ((∀ t : Nat, 22 ≤ t → t ≤ 46 → (⟨lit.toArray⟩ : ByteArray) ≠ kwS t) ∧ word = kwS 2 ∧ l17 = ⟨lit.toArray⟩)
/-- What the door of names gives. -/
def DoorI (lit : List UInt8) (more : List Nat) (w : World) (e : Ending) (w' : World) : Prop := ∃ word l17 ta tc B, IdRes lit word l17 ∧
  e = .returned (.tuple #[.agg #[.string l17, .int .i64 0, .bool false, .int .i32 (chOf more), .slice ta 0 tc], .string word]) ∧ w'.ownsRow B 61 3 (.slice ta 0 tc) 0 [] ∧ Below w.heap.size w w'
/-- A scanner over memory that holds the tables. -/
structure Base0 (E : Env) (w0 w : World) : Prop where
  s : w0.heap.size ≤ E.c.sb
  b : w0.heap.size ≤ E.c.bb
  r : w0.heap.size ≤ E.c.rb
  p : w0.heap.size ≤ E.pb
  B : w0.heap.size ≤ E.B
  below : Below w0.heap.size w0 w
theorem Base0.tk {E : Env} {w0 w w' : World} (h : Base0 E w0 w) (hT : TK E w w') : Base0 E w0 w' :=
  ⟨h.s, h.b, h.r, h.p, h.B, hT.os.trans h.below.os, hT.tape.trans h.below.tape, hT.output.trans h.below.output, Nat.le_trans h.below.size hT.size,
    fun k hk => (hT.block k (Nat.lt_of_lt_of_le hk h.B) (by have := h.s; omega) (by have := h.b; omega) (by have := h.r; omega) (by have := h.p; omega)).trans (h.below.block k hk)⟩
theorem TK.of_gf {E : Env} {w w' : World} (h : GF E w w') : TK E w w' := h.tk

theorem ident_res {E : Env} {lit : List UInt8} {more : List Nat} {w w' : World} {e : Ending} (h : IdentPost E lit more w e w') : ∃ (t : Nat) (l17 : ByteArray), (t = 2 ∨ 22 ≤ t) ∧ t ≤ 46 ∧ w'.cell? ⟨E.c.sb, 16, none⟩ = some (.int .u64 (t : Int)) ∧ w'.cell? ⟨E.c.sb, 17, none⟩ = some (.string l17) ∧ IdRes lit (kwS t) l17 := by
  obtain ⟨-, -, -, -, -, ⟨t, h1, h2, h3, h4, h5⟩ | ⟨h1, h2, h3⟩⟩ := h
  · exact ⟨t, _, .inr h1, h2, h4, h5, .inl ⟨t, h1, h2, h3, rfl⟩⟩
  · exact ⟨2, _, .inl rfl, by omega, h2, h3, .inr ⟨h1, rfl, rfl⟩⟩
theorem Base0.keeps {E : Env} {w0 w w' : World} (h : Base0 E w0 w) (hK : Keeps E.pb w w') : Below w0.heap.size w0 w' :=
  ⟨hK.os.trans h.below.os, hK.tape.trans h.below.tape, hK.output.trans h.below.output, Nat.le_trans h.below.size hK.size,
    fun k hk => (hK.block k (Nat.lt_of_lt_of_le hk h.below.size) (by have := h.p; omega)).trans (h.below.block k hk)⟩
/-- What stands behind zzOf, ahead of the result's store. -/
structure After5 (E : Env) (w w' : World) (t : Nat) (l17 : ByteArray) (ch : Int) (v : Value) : Prop where
  c16 : w'.cell? ⟨E.c.sb, 16, none⟩ = some (.int .u64 (t : Int))
  part : PartAt w' E.pb l17 0 ch false v
  below : Below w.heap.size w w'
  row : w'.ownsRow E.B 61 3 v 0 []
theorem After5.drewN {E : Env} {w w' : World} {t : Nat} {l17 : ByteArray} {ch : Int} {v : Value} (h : After5 E w w' t l17 ch v) (k : Nat) : After5 E w (w'.drewN k) t l17 ch v :=
  ⟨h.c16, ⟨h.part.c0, h.part.c1, h.part.c2, h.part.c3, h.part.c4, h.part.fz⟩, below_drewN h.below k, h.row⟩
set_option maxRecDepth 100000 in
set_option maxHeartbeats 2000000 in
theorem zzIdent_calls (xb xn xc x : Nat) (a more : List Nat) (ea : Addr) (w : World) (hG : Glob w ea) (hTb : Tabs w) (hok : okAll (x :: (a ++ more))) (hn : xn = (encs (x :: (a ++ more))).length) (hmax : (xn : Int) ≤ 1900) (hxc : (xn : Int) ≤ xc) (hw : 12 ≤ w.heap.size)
    (hsrc : ∀ j v, (bytesV (encs (x :: (a ++ more))))[j]? = some v → w.cell? ⟨xb, j, none⟩ = some v) (ha : ∀ c ∈ a, idc c = true) (hm : Bhd more) :
    Calls Tryd.prog 50 #[.slice (some ⟨xb, 0, none⟩) xn xc] w (DoorI (enc x ++ encs a) more w) := by
  have HG := Lib.hid (glob_alloc hG part0)
  have HTB := Lib.hid hTb
  have HOK := Lib.hid hok
  have HN := Lib.hid hn
  have HA : Hid (∀ c ∈ a, idc c = true ∧ c < 1114112) := fun c hc => ⟨ha c hc, by have := hok c (by simp [hc]); unfold okR at this; omega⟩
  have HM := Lib.hid hm
  have HSRC : Hid (∀ j v, (bytesV (encs (x :: (a ++ more))))[j]? = some v → (w.alloc part0).cell? ⟨xb, j, none⟩ = some v) := fun j v h => alloc_cell _ (hsrc j v h)
  have HP := Lib.hid (part0_cells w)
  have HPF := Lib.hid (part0_frozen w)
  clear hG hTb hok hn ha hm hsrc
  go_enter Tryd.func50, Tryd.ntmps50
  go_wp2_with (go_at_call 54; refine (zzAt_calls xb xn xc w.heap.size x (a ++ more) ea 0 (w.alloc part0) HG.out HOK.out HN.out hmax hxc HSRC.out (by simp) hw HP.out.2.2.2.2 HPF.out).mono ?_; rintro e w2 ⟨E, rfl, hO⟩; have hO := Lib.hid hO)
  go_at_call 57
  refine (open_next E [] x (a ++ more) 0 _ hO.out.to).mono ?_
  rintro e w3 ⟨rfl, hA3, hK3⟩
  have HO3 := Lib.hid hA3
  have hB2 : Hid (Base0 E w w2) := by
    have e := hO.out.pb
    have s := hO.out.s; have b := hO.out.b; have r := hO.out.r; have B := hO.out.B
    have hsz : (w.alloc part0).heap.size = w.heap.size + 1 := by simp
    refine ⟨by omega, by omega, by omega, by omega, by omega, ((Below.refl w.heap.size w).alloc (Nat.le_refl _) part0).trans (hO.out.below.mono (by omega))⟩
  have hB3 : Hid (Base0 E w w3) := hB2.out.tk hK3
  have hT3 : Hid (∀ w', GF E w3 w' → Tabs w') := fun w' hF => HTB.out.below hw (hB3.out.tk hF.tk).below
  have HK3 := Lib.hid hK3
  clear hA3 hK3
  go_wp2_with fail
  go_at_call 70
  refine (ident_calls E ([] ++ enc x) a more 0 _ HO3.out hT3.out (Nat.le_trans hw hB3.out.below.size) HA.out HM.out).mono ?_
  rintro e w4 hI
  obtain ⟨t, l17, ht, ht46, h16, h17, hres⟩ := ident_res hI
  obtain ⟨rfl, hT4, hS4, h18, h19, -⟩ := hI
  have hB4 : Hid (Base0 E w w4) := hB3.out.tk hT4
  have HRES : Hid (IdRes (enc x ++ encs a) (kwS t) l17) := by show IdRes _ _ _; simpa using hres
  have hT24 : TK E w2 w4 := HK3.out.trans hT4
  have h9 := hS4.ch
  obtain ⟨s, hSc, -⟩ := hS4
  obtain ⟨-, ⟨v, h4, hv⟩, hfz, -, hb1, -, -, -⟩ := hSc.told
  obtain ⟨ta, tc, rfl⟩ := ownsRow_slice hv
  have hne := hSc.ok.p1
  have epb := hO.out.pb
  have hsz1 : (w.alloc part0).heap.size = w.heap.size + 1 := by simp
  have P : ∀ i v, i ≠ 4 → (w.alloc part0).cell? ⟨w.heap.size, i, none⟩ = some v → w4.cell? ⟨E.pb, i, none⟩ = some v := fun i v hi hc => by
    rw [hT24.part i hi, epb, ← hc]
    exact hO.out.below.cell (p := ⟨w.heap.size, i, none⟩) (by show w.heap.size < _; omega)
  have hz56 : Hid (∀ j, Calls Tryd.prog 56 #[.pointer (some ⟨E.c.sb, 0, none⟩), .pointer (some ⟨E.pb, 0, none⟩)] (w4.drewN j) fun e w' => e = .returned (.agg #[.string l17, .int .i64 0, .bool false, .int .i32 (chOf more), .slice ta 0 tc]) ∧ Keeps E.pb (w4.drewN j) w' ∧ PartAt w' E.pb l17 0 (chOf more) false (.slice ta 0 tc)) := fun j =>
    zzOf_part E.c.sb E.pb l17 0 (chOf more) false ta 0 tc (w4.drewN j) _ _ _ _ h17 h19 h18 h9 (P 0 _ (by omega) HP.out.1) (P 1 _ (by omega) HP.out.2.1) (P 2 _ (by omega) HP.out.2.2.1) (P 3 _ (by omega) HP.out.2.2.2.1) h4 hfz hne (by omega)
  have hT4d : Hid (∀ j, Tabs (w4.drewN j)) := fun j => HTB.out.below hw (below_drewN hB4.out.below j)
  have hK56 : Hid (∀ j w', Keeps E.pb (w4.drewN j) w' → w'.cell? ⟨E.c.sb, 16, none⟩ = some (.int .u64 (t : Int)) ∧ (Tabs w' ∧ ∀ k, Tabs (w'.drewN k)) ∧ Below w.heap.size w w' ∧ w'.ownsRow E.B 61 3 (.slice ta 0 tc) 0 []) := fun j w' hK => by
    have hlt : E.c.sb < w4.heap.size := cell_lt (a := ⟨E.c.sb, 16, none⟩) h16
    have hBl : Below w.heap.size w w' := hB4.out.keeps (w' := w') ⟨hK.block, hK.size, hK.os, hK.tape, hK.output⟩
    refine ⟨?_, ⟨HTB.out.below hw hBl, fun k => HTB.out.below hw (below_drewN hBl k)⟩, hBl, hK.row (w := w4.drewN j) hv hb1⟩
    rw [← h16]
    exact World.cell?_of_block (w := w4) (hK.block E.c.sb hlt (Ne.symm hne))
  have hz1 : Hid (Calls Tryd.prog 56 #[.pointer (some ⟨E.c.sb, 0, none⟩), .pointer (some ⟨E.pb, 0, none⟩)] w4.drew fun e w' => e = .returned (.agg #[.string l17, .int .i64 0, .bool false, .int .i32 (chOf more), .slice ta 0 tc]) ∧ Keeps E.pb (w4.drewN 1) w' ∧ PartAt w' E.pb l17 0 (chOf more) false (.slice ta 0 tc)) := hz56.out 1
  have hT1 : Hid (Tabs w4.drew) := hT4d.out 1
  have hn1 : ¬ E.pb = E.c.sb := hne
  have hn2 : ¬ E.c.sb = E.pb := Ne.symm hne
  have HEPB := Lib.hid epb
  have hpB : Hid (E.pb < E.B) := hb1
  have htb : Hid ((t = 2 ∨ 22 ≤ t) ∧ ((1 : Int) ≤ (t : Int)) ∧ ((t : Int) ≤ 46)) := ⟨ht, by omega, by omega⟩
  have hwE : Hid (w.heap.size < E.B) := by
    show _ < _
    have := hO.out.B
    omega
  clear hT4 h17 h19 h18 h9 h4 hv hfz hne P hT24 hb1 hres ht ht46 hsz1 hSc
  dsimp only
  rw [← epb]
  clear epb
  go_wp2_with fail
  go_region_held3 (fun w' => w'.cell? ⟨E.c.sb, 16, none⟩ = some (.int .u64 (t : Int))) (first | with_reducible exact h16 | with_reducible exact d16 | with_reducible exact g16 | (go_simp; done))
    (first | (go_at_call 56; (with_reducible refine hz1.out.mono ?_); rintro e w5 ⟨rfl, hK5, hP5⟩; obtain ⟨d16, dT, dB, dR⟩ := hK56.out _ _ hK5; have HA5 : Hid (After5 E w w5 t l17 (chOf more) (.slice ta 0 tc)) := ⟨d16, hP5, dB, dR⟩; have dT := Lib.hid dT.1; clear hK5 hP5 dB dR) | (go_at_call 71; refine (string_calls t _ dT.out htb.out.1 htb.out.2.1 htb.out.2.2).mono ?_; rintro e w6 ⟨rfl, k6, hw6⟩; have HA6 : Hid (After5 E w w6 t l17 (chOf more) (.slice ta 0 tc)) := (by rw [hw6]; exact HA5.out.drewN k6); have g16 := HA6.out.c16; obtain ⟨q0, q1, q2, q3, q4, qf⟩ := HA6.out.part; clear hw6))
  go_wp2_with fail
  refine bodyPost_ret (v := .tuple #[.agg #[.string l17, .int .i64 0, .bool false, .int .i32 (chOf more), .slice ta 0 tc], .string (kwS t)]) (by simp [results, Tryd.results50, go_sem, q0, q1, q2, q3, q4]) rfl ?_
  have hB := hpB.out
  have hP := hB4.out.p
  exact ⟨kwS t, l17, ta, tc, E.B, HRES.out, rfl, row_set (row_set (row_set (row_set (row_set HA6.out.row hB) hB) hB) hB) hB, ((((HA6.out.below.setCell hP _).setCell hP _).setCell hP _).setCell hP _).setCell hP _⟩
end Go.Proofs.YtnehkpoggkfikaaDoor
