/-
  The doors that read one token, once for all tokens: what a token's reader leaves, and what a door and the thin package's reader give of it. Conditions: each law's own.
-/
import Derived.Test.YtnehkpoggkfikaaDoorIRaw
namespace Go.Proofs.YtnehkpoggkfikaaDoor
open Go.RowKit
set_option linter.unusedVariables false

/-- What zzOf reads, and what is told. -/
structure EndAt (w : World) (E : Env) (lit : ByteArray) (kind : Int) (bad : Bool) (ch : Int) (ns : List Note) : Prop where
  ok : E.ok
  c9 : w.cell? ⟨E.c.sb, 9, none⟩ = some (.int .i32 ch)
  c17 : w.cell? ⟨E.c.sb, 17, none⟩ = some (.string lit)
  c18 : w.cell? ⟨E.c.sb, 18, none⟩ = some (.bool bad)
  c19 : w.cell? ⟨E.c.sb, 19, none⟩ = some (.int .u8 kind)
  told : Told w E.pb E.vb E.B ns.length (cellsU ns)
theorem LitAt.end {w : World} {E : Env} {p : List UInt8} {l : List Nat} {ns : List Note} {mode l0 k0 kind : Int} {bad : Bool} (h : LitAt w E p l ns.length (cellsU ns) mode l0 k0 kind bad) : EndAt w E ⟨p.toArray⟩ kind bad (chOf l) ns := by
  obtain ⟨s, hS, ha⟩ := h.scan
  exact ⟨hS.ok, h.scan.ch, h.lit, h.bad, h.kind, hS.told⟩

/-- A token: its text, its kind, whether it is bad, the character behind it, what is told. -/
abbrev TokR := ByteArray → Int → Bool → Int → List Note → Prop
/-- What a token's reader leaves. -/
def TokEnd (R : TokR) (E : Env) (w : World) (e : Ending) (w' : World) : Prop :=
  e = .returned (.tuple #[]) ∧ TK E w w' ∧ ∃ lit kind bad ch ns, R lit kind bad ch ns ∧ (0 ≤ kind ∧ kind < 256) ∧ (-2147483648 ≤ ch ∧ ch ≤ 2147483647) ∧ EndAt w' E lit kind bad ch ns
theorem TokEnd.mk {R : TokR} {E : Env} {w w' : World} {lit : ByteArray} {kind : Int} {bad : Bool} {ch : Int} {ns : List Note} (hK : TK E w w') (hR : R lit kind bad ch ns) (hk : 0 ≤ kind ∧ kind < 256) (hc : -2147483648 ≤ ch ∧ ch ≤ 2147483647) (hE : EndAt w' E lit kind bad ch ns) :
    TokEnd R E w (.returned (.tuple #[])) w' := ⟨rfl, hK, lit, kind, bad, ch, ns, hR, hk, hc, hE⟩

theorem zzOf_end (E : Env) (pb : Nat) (hpb : E.pb = pb) (lit : ByteArray) (kind : Int) (bad : Bool) (ch : Int) (ns : List Note) (w : World) (h : EndAt w E lit kind bad ch ns) (hk : 0 ≤ kind ∧ kind < 256)
    (v0 v1 v2 v3 : Value) (p0 : w.cell? ⟨pb, 0, none⟩ = some v0) (p1 : w.cell? ⟨pb, 1, none⟩ = some v1) (p2 : w.cell? ⟨pb, 2, none⟩ = some v2) (p3 : w.cell? ⟨pb, 3, none⟩ = some v3) :
    Calls Tryd.prog 56 #[.pointer (some ⟨E.c.sb, 0, none⟩), .pointer (some ⟨pb, 0, none⟩)] w fun e w' =>
      ∃ ta tc, e = .returned (.agg #[.string lit, .int .i64 kind, .bool bad, .int .i32 ch, .slice ta ns.length tc]) ∧ w'.ownsRow E.B 61 3 (.slice ta ns.length tc) ns.length (cellsU ns) ∧ Keeps pb w w' := by
  subst hpb
  obtain ⟨v, h4, hv⟩ := h.told.cell
  obtain ⟨ta, tc, rfl⟩ := ownsRow_slice hv
  refine (zzOf_calls E.c.sb E.pb lit kind ch bad ta ns.length tc w v0 v1 v2 v3 h.c17 h.c19 h.c18 h.c9 p0 p1 p2 p3 h4 h.told.fz h.ok.p1 hk).mono ?_
  rintro e w' ⟨rfl, hK⟩
  exact ⟨ta, tc, rfl, hK.row hv h.told.b1, hK⟩

/-- A scanner at a place of its text, nothing told, no token yet. -/
structure OpenTo (w : World) (E : Env) (p : List UInt8) (l : List Nat) (m : Int) : Prop where
  at_ : ScanAt w E p l 0 []
  tail : Tail w E.c.sb m 1 1
  c17 : w.cell? ⟨E.c.sb, 17, none⟩ = some (.string ⟨#[]⟩)
  c18 : w.cell? ⟨E.c.sb, 18, none⟩ = some (.bool false)
  c19 : w.cell? ⟨E.c.sb, 19, none⟩ = some (.int .u8 0)
theorem Opened.to {w : World} {pb : Nat} {m : Int} {l : List Nat} {E : Env} {w' : World} (h : Opened w pb m l E w') : OpenTo w' E [] l m := ⟨h.at_, h.tail, h.c17, h.c18, h.c19⟩
theorem open_next (E : Env) (p : List UInt8) (x : Nat) (l : List Nat) (m : Int) (w : World) (h : OpenTo w E p (x :: l) m) :
    Calls Tryd.prog 57 #[.pointer (some ⟨E.c.sb, 0, none⟩)] w fun e w' => e = .returned (.tuple #[]) ∧ OpenTo w' E (p ++ enc x) l m ∧ TK E w w' :=
  (next_at E p x l 0 [] w h.at_).mono fun e w' ⟨he, hS, hF⟩ => ⟨he, ⟨hS, h.tail.gf hF, (hF.tail 17 (by omega)).trans h.c17, (hF.tail 18 (by omega)).trans h.c18, (hF.tail 19 (by omega)).trans h.c19⟩, hF.tk⟩

/-- What a door gives. -/
def DoorR (R : TokR) (w : World) (e : Ending) (w' : World) : Prop := ∃ lit kind bad ch ns, R lit kind bad ch ns ∧ (-2147483648 ≤ ch ∧ ch ≤ 2147483647) ∧ ns.length ≤ 100000 ∧
  ∃ ta tc B, e = .returned (.agg #[.string lit, .int .i64 kind, .bool bad, .int .i32 ch, .slice ta ns.length tc]) ∧ w'.ownsRow B 61 3 (.slice ta ns.length tc) ns.length (cellsU ns) ∧ Below w.heap.size w w'
/-- What the thin package's reader gives. -/
def ImplR (R : TokR) (w : World) (e : Ending) (w' : World) : Prop := ∃ lit kind bad ch ns, R lit kind bad ch ns ∧ PartPost lit kind ch bad ns w e w'
theorem EndAt.le {w : World} {E : Env} {lit : ByteArray} {kind : Int} {bad : Bool} {ch : Int} {ns : List Note} (h : EndAt w E lit kind bad ch ns) : ns.length ≤ 100000 := h.told.n
end Go.Proofs.YtnehkpoggkfikaaDoor
