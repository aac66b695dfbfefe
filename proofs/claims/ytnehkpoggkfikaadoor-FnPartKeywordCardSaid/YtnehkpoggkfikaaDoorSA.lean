/-
  A scanner at a place of its text, so many errors told; small functions on characters. Conditions: each law's own.
-/
import Derived.Test.YtnehkpoggkfikaaDoorAt
import Derived.Test.YtnehkpoggkfikaaDoorPart
import Derived.Test.YtnehkpoggkfikaaDoorEsc
import Derived.Laws.BitsLemmas
namespace Go.Proofs.YtnehkpoggkfikaaDoor
open Go.RowKit
set_option linter.unusedVariables false

/-- New memory changes nothing for a scanner. -/
theorem Scan.below {w w' : World} {E : Env} {s : St} {n : Nat} {xs : List Value} (h : Scan w E s n xs) (hb : Below w.heap.size w w') : Scan w' E s n xs := by
  have hB := h.told.size
  have hp := h.told.b1
  have tf : TF E.B E.pb w w' := ⟨hb.os, hb.tape, hb.output, hb.size, fun k hk _ => hb.block k (by omega), fun i _ => hb.cell (p := ⟨E.pb, i, none⟩) (by show E.pb < _; omega), fun i => hb.frozen (p := ⟨E.pb, i, none⟩) (by show E.pb < _; omega)⟩
  refine ⟨h.ok, h.src.tf h.ok tf, ?_⟩
  obtain ⟨h0, ⟨v, h1, hown⟩, f, hn, b1, b2, ne, hB⟩ := h.told
  exact ⟨(hb.cell (p := ⟨E.vb, 0, none⟩) (by show E.vb < _; omega)).trans h0, ⟨v, (hb.cell (p := ⟨E.pb, 4, none⟩) (by show E.pb < _; omega)).trans h1, ownsRow_of_block hown fun g _ hlt => hb.block g hlt⟩,
    fun i => (hb.frozen (p := ⟨E.pb, i, none⟩) (by show E.pb < _; omega)).trans (f i), hn, b1, b2, ne, Nat.le_trans hB hb.size⟩
theorem GF.of_below {w w' : World} {E : Env} {s : St} {n : Nat} {xs : List Value} (h : Scan w E s n xs) (hb : Below w.heap.size w w') : GF E w w' := by
  have hB := h.told.size
  have hp := h.told.b1
  have hs := h.ok.s
  exact ⟨hb.os, hb.tape, hb.output, hb.size, fun k hk _ _ _ _ => hb.block k (by omega), fun i _ => hb.cell (p := ⟨E.c.sb, i, none⟩) (by show E.c.sb < _; omega), fun i => hb.frozen (p := ⟨E.c.sb, i, none⟩) (by show E.c.sb < _; omega), fun i _ => hb.cell (p := ⟨E.pb, i, none⟩) (by show E.pb < _; omega)⟩

/-- The scanner at a place of its text, e errors told. -/
def SA (w : World) (E : Env) (p : List UInt8) (l : List Nat) (e : Nat) : Prop := ∃ ns : List Note, ns.length = e ∧ ScanAt w E p l ns.length (cellsU ns)
theorem SA.ch {w : World} {E : Env} {p : List UInt8} {l : List Nat} {e : Nat} (h : SA w E p l e) : w.cell? ⟨E.c.sb, 9, none⟩ = some (.int .i32 (chOf l)) := let ⟨_, _, h⟩ := h; h.ch
theorem SA.drewN {w : World} {E : Env} {p : List UInt8} {l : List Nat} {e : Nat} (h : SA w E p l e) (k : Nat) : SA (w.drewN k) E p l e := let ⟨ns, hn, h⟩ := h; ⟨ns, hn, h.drewN k⟩
theorem SA.below {w w' : World} {E : Env} {p : List UInt8} {l : List Nat} {e : Nat} (h : SA w E p l e) (hb : Below w.heap.size w w') : SA w' E p l e ∧ GF E w w' :=
  let ⟨ns, hn, s, hS, ha⟩ := h; ⟨⟨ns, hn, s, hS.below hb, ha⟩, GF.of_below hS hb⟩
theorem SA.len {w : World} {E : Env} {p : List UInt8} {l : List Nat} {e : Nat} (h : SA w E p l e) : p.length + l.length ≤ 2000 := by
  obtain ⟨ns, hn, s, hS, ha⟩ := h
  obtain ⟨bd, -, cur, -, -, -, hact⟩ := hS.src
  have h1 := (hact ha.act).1
  have h2 := bd.b1
  rw [h1, ha.all, ha.rest] at h2
  have hl : ∀ l : List Nat, l.length ≤ (encs l).length := fun l => by
    induction l with
    | nil => simp
    | cons x l ih => have := enc_len_pos x; simp [encs]; omega
  have h3 := hl l.tail
  cases l with
  | nil => simp at h2 ⊢; omega
  | cons x l => have := enc_len_pos x; simp [headOf] at h2 h3 ⊢; omega
theorem SA.ok {w : World} {E : Env} {p : List UInt8} {l : List Nat} {e : Nat} (h : SA w E p l e) : okAll l.tail := by
  obtain ⟨ns, hn, s, hS, ha⟩ := h
  have := hS.src.1.ok
  rw [ha.rest] at this; exact this
theorem SA.col {w : World} {E : Env} {p : List UInt8} {l : List Nat} {e : Nat} (h : SA w E p l e) (hp : ∀ b ∈ p, b ≠ 10) : ∃ line : Nat, (line : Int) ≤ 8000 ∧ ((p.length : Nat) : Int) ≤ 8000 ∧ w.cell? ⟨E.c.sb, 7, none⟩ = some (.int .u64 line) ∧ w.cell? ⟨E.c.sb, 8, none⟩ = some (.int .u64 (p.length : Nat)) := by
  obtain ⟨ns, hn, s, hS, ha⟩ := h
  obtain ⟨bd, -, cur, hR, -⟩ := hS.src
  have h8 := hR.c8
  rw [ha.col hp] at h8
  have := bd.b2; have := bd.b3
  have hc := ha.col hp
  exact ⟨s.line, by omega, by omega, hR.c7, h8⟩

theorem next_sa (E : Env) (p : List UInt8) (x : Nat) (l : List Nat) (e : Nat) (w : World) (h : SA w E p (x :: l) e) :
    Calls Tryd.prog 57 #[.pointer (some ⟨E.c.sb, 0, none⟩)] w fun en w' => en = .returned (.tuple #[]) ∧ SA w' E (p ++ enc x) l e ∧ GF E w w' := by
  obtain ⟨ns, hn, h⟩ := h
  exact (next_at E p x l _ _ w h).mono fun en w' ⟨he, hS, hF⟩ => ⟨he, ⟨ns, hn, hS⟩, hF⟩
theorem next_sa_end (E : Env) (p : List UInt8) (e : Nat) (w : World) (h : SA w E p [] e) :
    Calls Tryd.prog 57 #[.pointer (some ⟨E.c.sb, 0, none⟩)] w fun en w' => en = .returned (.tuple #[]) ∧ SA w' E p [] e ∧ GF E w w' := by
  obtain ⟨ns, hn, h⟩ := h
  exact (next_at_end E p _ _ w h).mono fun en w' ⟨he, hS, hF⟩ => ⟨he, ⟨ns, hn, hS⟩, hF⟩
theorem cellsU_snoc (ns : List Note) (a b : Int) (m : ByteArray) : cellsU (ns ++ [(a, b, m)]) = cellsU ns ++ [.int .u64 a, .int .u64 b, .string m] := by simp [cellsU]
theorem sa_more {E : Env} {p : List UInt8} {l : List Nat} {ns : List Note} {m : ByteArray} {w : World} {en : Ending} {w' : World} (h : MoreAt E p l ns.length (cellsU ns) m w en w') : en = .returned (.tuple #[]) ∧ SA w' E p l (ns.length + 1) ∧ GF E w w' := by
  obtain ⟨he, ⟨a, b, hS⟩, hF⟩ := h
  refine ⟨he, ⟨ns ++ [(a, b, m)], by simp, ?_⟩, hF⟩
  rw [cellsU_snoc]
  simpa using hS
theorem errorf_sa (E : Env) (p : List UInt8) (l : List Nat) (e : Nat) (m : ByteArray) (a : Option Addr) (al ac : Nat) (w : World) (h : SA w E p l e) (hn : e < 100000) :
    Calls Tryd.prog 91 #[.pointer (some ⟨E.c.sb, 0, none⟩), .string m, .slice a al ac] w fun en w' => en = .returned (.tuple #[]) ∧ SA w' E p l (e + 1) ∧ GF E w w' := by
  obtain ⟨ns, rfl, h⟩ := h
  exact (errorf_at E p l _ _ m a al ac w h hn).mono fun en w' hm => sa_more hm
theorem errorAtf_sa (E : Env) (p : List UInt8) (l : List Nat) (e : Nat) (m : ByteArray) (mode l0 k0 off : Int) (a : Option Addr) (al ac : Nat) (w : World) (h : SA w E p l e) (hn : e < 100000) (ht : Tail w E.c.sb mode l0 k0) :
    Calls Tryd.prog 79 #[.pointer (some ⟨E.c.sb, 0, none⟩), .int .i64 off, .string m, .slice a al ac] w fun en w' => en = .returned (.tuple #[]) ∧ SA w' E p l (e + 1) ∧ GF E w w' := by
  obtain ⟨ns, rfl, h⟩ := h
  exact (errorAtf_at E p l _ _ m mode l0 k0 off a al ac w h hn ht).mono fun en w' hm => sa_more hm
/-- What setLit leaves. -/
def LitSA (w : World) (E : Env) (p : List UInt8) (l : List Nat) (e : Nat) (mode l0 k0 kind : Int) (bad : Bool) : Prop := ∃ ns : List Note, ns.length = e ∧ LitAt w E p l ns.length (cellsU ns) mode l0 k0 kind bad
theorem setLit_sa (E : Env) (p : List UInt8) (l : List Nat) (e : Nat) (mode l0 k0 kind : Int) (ok : Bool) (w : World) (h : SA w E p l e) (ht : Tail w E.c.sb mode l0 k0) :
    Calls Tryd.prog 80 #[.pointer (some ⟨E.c.sb, 0, none⟩), .int .u8 kind, .bool ok] w fun en w' => en = .returned (.tuple #[]) ∧ LitSA w' E p l e mode l0 k0 kind (!ok) ∧ TK E w w' := by
  obtain ⟨ns, hn, h⟩ := h
  exact (setLit_at E p l _ _ mode l0 k0 kind ok w h ht).mono fun en w' ⟨he, hL, hF⟩ => ⟨he, ⟨ns, hn, hL⟩, hF⟩

/-- A letter in its lower form. -/
def low (c : Nat) : Nat := 32 ||| c
theorem low_ge (c : Nat) : c ≤ low c := Nat.right_le_or
theorem low_small : ∀ c : Fin 128, low c.val = if 65 ≤ c.val ∧ c.val ≤ 90 then c.val + 32 else if c.val ≤ 31 ∨ c.val = 64 ∨ (91 ≤ c.val ∧ c.val ≤ 95) then c.val + 32 else c.val := by decide +kernel
theorem low_lt (c : Nat) (h : c < 2147483648) : low c < 2147483648 := Nat.or_lt_two_pow (n := 31) (by decide) h
theorem low_bits (c : Nat) (h : c < 2147483648) : bits .or .i32 32 (c : Int) = (low c : Int) :=
  (bits_nat .i32 31 (by decide) (fun n a b => wraps_i32 n a (by simpa using b)) 32 c (by decide) (by simpa using h)).2
theorem low_minus : bits .or .i32 32 (-1) = -1 := by decide +kernel
/-- The letters up to a bound of small ones. -/
theorem low_in (c a b : Nat) (h1 : 97 ≤ a) (h2 : b ≤ 122) : (a ≤ low c ∧ low c ≤ b) ↔ ((a ≤ c ∧ c ≤ b) ∨ (a ≤ c + 32 ∧ c + 32 ≤ b)) ∧ 65 ≤ c := by
  have hg := low_ge c
  by_cases hc : c < 128
  · have := low_small ⟨c, hc⟩
    simp only at this
    rw [this]
    repeat' split
    all_goals omega
  · omega

theorem lower_calls (c : Nat) (w : World) (h : c < 2147483648) : Calls Tryd.prog 93 #[.int .i32 (c : Int)] w fun e w' => e = .returned (.int .i32 (low c : Int)) ∧ w = w' := by
  have hb := low_bits c h
  go_enter Tryd.func93, Tryd.ntmps93
  go_wp2
  go_ret
  exact ⟨rfl, rfl⟩
theorem lower_end (w : World) : Calls Tryd.prog 93 #[.int .i32 (-1)] w fun e w' => e = .returned (.int .i32 (-1)) ∧ w = w' := by
  have hb := low_minus
  go_enter Tryd.func93, Tryd.ntmps93
  go_wp2
  go_ret
  exact ⟨rfl, rfl⟩
theorem isDecimal_yes (c : Int) (w : World) (h : 48 ≤ c) (h2 : c ≤ 57) : Calls Tryd.prog 100 #[.int .i32 c] w fun e w' => e = .returned (.bool true) ∧ w = w' := by
  go_enter Tryd.func100, Tryd.ntmps100
  go_wp2
  go_ret
  exact ⟨rfl, rfl⟩
theorem isDecimal_no (c : Int) (w : World) (h : c < 48 ∨ 57 < c) : Calls Tryd.prog 100 #[.int .i32 c] w fun e w' => e = .returned (.bool false) ∧ w = w' := by
  rcases h with h | h
  · have h1 : decide ((48 : Int) ≤ c) = false := by simp; omega
    go_enter Tryd.func100, Tryd.ntmps100
    go_wp2
    go_ret
    exact ⟨rfl, rfl⟩
  · have h1 : (48 : Int) ≤ c := by omega
    have h2 : decide (c ≤ (57 : Int)) = false := by simp; omega
    go_enter Tryd.func100, Tryd.ntmps100
    go_wp2
    go_ret
    exact ⟨rfl, rfl⟩
theorem baseName_calls (b : Int) (w : World) (h : b = 2 ∨ b = 8 ∨ b = 10 ∨ b = 16) : Calls Tryd.prog 95 #[.int .i64 b] w fun e w' => (∃ m, e = .returned (.string m)) ∧ w = w' := by
  rcases h with rfl | rfl | rfl | rfl
  all_goals
    go_enter Tryd.func95, Tryd.ntmps95
    go_wp2
    go_ret
    exact ⟨⟨_, rfl⟩, rfl⟩
end Go.Proofs.YtnehkpoggkfikaaDoor
