/-
  The scanner's source in memory: what its cells hold, what a step may write, and the walks through the reader and the buffer's filling. Conditions: each law's own.
-/
import Derived.Test.YtnehkpoggkfikaaDoorProg
import Derived.Test.YtnehkpoggkfikaaDoorText
import Derived.WalkKit
import Derived.WalkSpells
import Derived.WalkLawsBesides
import Derived.Outline
import Derived.Deep.QuietTactic
import Derived.BigQuiet
import Derived.StillTailTactics
import Derived.Laws.CopyOwn
import Derived.Lib.Hide
import Derived.LaidEqlPtr
import Derived.Deep.LoopGhost
import Derived.Shelf.Unicode.DecodeSlow
namespace Go.Proofs.YtnehkpoggkfikaaDoor
open Go.RowKit
set_option linter.unusedVariables false

/-- Where a scanner lies: its block, the buffer's, the reader's, the text's, its length and capacity; its handler of errors; the value of io.EOF. -/
structure Cfg where
  sb : Nat
  bb : Nat
  rb : Nat
  xb : Nat
  xn : Nat
  xc : Nat
  hv : Value
  ea : Addr

def Cfg.ok (c : Cfg) : Prop := c.bb ≠ c.sb ∧ c.rb ≠ c.sb ∧ c.rb ≠ c.bb ∧ 12 ≤ c.sb ∧ 12 ≤ c.bb ∧ 12 ≤ c.rb

/-- The library's variables that the scanner reads. -/
structure Glob (w : World) (ea : Addr) : Prop where
  eof : w.cell? ⟨1, 0, none⟩ = some (.iface 150 (.pointer (some ea)))
  tabs : Lib.Utf8Tabs 5 6 w

/-- What the source's own cells hold. -/
structure Raw (w : World) (c : Cfg) (cur : List Value) (io : Value) (b : Int) (r e line col : Nat) (ch : Int) (chw ri : Nat) : Prop where
  ok : c.ok
  c0 : w.cell? ⟨c.sb, 0, none⟩ = some (.iface 87 (.pointer (some ⟨c.rb, 0, none⟩)))
  c1 : w.cell? ⟨c.sb, 1, none⟩ = some c.hv
  c2 : w.cell? ⟨c.sb, 2, none⟩ = some (.slice (some ⟨c.bb, 0, none⟩) 4096 4096)
  c3 : w.cell? ⟨c.sb, 3, none⟩ = some io
  c4 : w.cell? ⟨c.sb, 4, none⟩ = some (.int .i64 b)
  c5 : w.cell? ⟨c.sb, 5, none⟩ = some (.int .i64 r)
  c6 : w.cell? ⟨c.sb, 6, none⟩ = some (.int .i64 e)
  c7 : w.cell? ⟨c.sb, 7, none⟩ = some (.int .u64 line)
  c8 : w.cell? ⟨c.sb, 8, none⟩ = some (.int .u64 col)
  c9 : w.cell? ⟨c.sb, 9, none⟩ = some (.int .i32 ch)
  c10 : w.cell? ⟨c.sb, 10, none⟩ = some (.int .i64 chw)
  fs : ∀ i, w.frozen? ⟨c.sb, i, none⟩ = false
  buf : w.heap[c.bb]? = some (.cells cur.toArray 5 (0, 0))
  len : cur.length = 4096
  r0 : w.cell? ⟨c.rb, 0, none⟩ = some (.slice (some ⟨c.xb, 0, none⟩) c.xn c.xc)
  r1 : w.cell? ⟨c.rb, 1, none⟩ = some (.int .i64 ri)
  r2 : ∃ z, w.cell? ⟨c.rb, 2, none⟩ = some (.int .i64 z)
  fr : ∀ i, w.frozen? ⟨c.rb, i, none⟩ = false

/-- What a step of the source may write: the scanner's first eleven cells, the buffer, the reader, and new blocks. -/
structure Fr (c : Cfg) (w w' : World) : Prop where
  os : w'.os = w.os
  tape : w'.tape = w.tape
  output : w'.output = w.output
  size : w.heap.size ≤ w'.heap.size
  block : ∀ k, k < w.heap.size → k ≠ c.sb → k ≠ c.bb → k ≠ c.rb → w'.heap[k]? = w.heap[k]?
  cells : ∀ i, 11 ≤ i → w'.cell? ⟨c.sb, i, none⟩ = w.cell? ⟨c.sb, i, none⟩
  fz : ∀ i, w'.frozen? ⟨c.sb, i, none⟩ = w.frozen? ⟨c.sb, i, none⟩

theorem Fr.refl (c : Cfg) (w : World) : Fr c w w := ⟨rfl, rfl, rfl, Nat.le_refl _, fun _ _ _ _ _ => rfl, fun _ _ => rfl, fun _ => rfl⟩
theorem Fr.trans {c : Cfg} {u v w : World} (h : Fr c u v) (k : Fr c v w) : Fr c u w :=
  ⟨k.os.trans h.os, k.tape.trans h.tape, k.output.trans h.output, Nat.le_trans h.size k.size,
    fun i hi h1 h2 h3 => (k.block i (Nat.lt_of_lt_of_le hi h.size) h1 h2 h3).trans (h.block i hi h1 h2 h3),
    fun i hi => (k.cells i hi).trans (h.cells i hi), fun i => (k.fz i).trans (h.fz i)⟩
theorem Fr.drew {c : Cfg} {u w : World} (h : Fr c u w) : Fr c u w.drew := ⟨h.os, h.tape, h.output, h.size, h.block, h.cells, h.fz⟩
theorem Fr.setCell {c : Cfg} {u w : World} (h : Fr c u w) {a : Addr} (ha : (a.block = c.sb ∧ a.off < 11) ∨ (a.block ≠ c.sb ∧ (a.block = c.bb ∨ a.block = c.rb))) (v : Value) : Fr c u (w.setCell a v) := by
  refine h.trans ⟨rfl, rfl, rfl, by simp [World.setCell], fun k hk h1 h2 h3 => Below.heap_setCell _ _ _ _ ?_, fun i hi => ?_, fun i => World.frozen?_setCell _ _ _ _⟩
  · rintro rfl
    rcases ha with ⟨ha, _⟩ | ⟨_, ha | ha⟩
    · exact h1 ha
    · exact h2 ha
    · exact h3 ha
  · refine World.cell?_setCell_other _ _ _ _ ?_
    rintro rfl
    rcases ha with ⟨_, ha⟩ | ⟨ha, _⟩
    · simp at ha; omega
    · exact ha rfl
/-- A call that lays new blocks alone. -/
theorem Fr.below {c : Cfg} {u w w' : World} (h : Fr c u w) (hs : c.sb < w.heap.size) (hb : Below w.heap.size w w') : Fr c u w' :=
  h.trans ⟨hb.os, hb.tape, hb.output, hb.size, fun k hk _ _ _ => hb.block k hk, fun i _ => hb.cell (p := ⟨c.sb, i, none⟩) hs, fun i => hb.frozen (p := ⟨c.sb, i, none⟩) hs⟩

theorem cell_lt {w : World} {a : Addr} {v : Value} (h : w.cell? a = some v) : a.block < w.heap.size := by
  unfold World.cell? at h
  rcases Nat.lt_or_ge a.block w.heap.size with h' | h'
  · exact h'
  · rw [Array.getElem?_eq_none h'] at h; simp at h

/-- A call that lays new blocks alone leaves the source as it was. -/
theorem Raw.below {w w' : World} {c : Cfg} {cur : List Value} {io : Value} {b : Int} {r e line col : Nat} {ch : Int} {chw ri : Nat}
    (h : Raw w c cur io b r e line col ch chw ri) (hb : Below w.heap.size w w') : Raw w' c cur io b r e line col ch chw ri := by
  have hs : c.sb < w.heap.size := cell_lt h.c0
  have hr : c.rb < w.heap.size := cell_lt h.r0
  have hbb : c.bb < w.heap.size := (Array.getElem?_eq_some_iff.1 h.buf).1
  have S : ∀ i, w'.cell? ⟨c.sb, i, none⟩ = w.cell? ⟨c.sb, i, none⟩ := fun i => hb.cell (p := ⟨c.sb, i, none⟩) hs
  have R : ∀ i, w'.cell? ⟨c.rb, i, none⟩ = w.cell? ⟨c.rb, i, none⟩ := fun i => hb.cell (p := ⟨c.rb, i, none⟩) hr
  exact ⟨h.ok, (S _).trans h.c0, (S _).trans h.c1, (S _).trans h.c2, (S _).trans h.c3, (S _).trans h.c4, (S _).trans h.c5, (S _).trans h.c6, (S _).trans h.c7, (S _).trans h.c8,
    (S _).trans h.c9, (S _).trans h.c10, fun i => (hb.frozen (p := ⟨c.sb, i, none⟩) hs).trans (h.fs i), (hb.block _ hbb).trans h.buf, h.len, (R _).trans h.r0, (R _).trans h.r1,
    let ⟨z, hz⟩ := h.r2; ⟨z, (R _).trans hz⟩, fun i => (hb.frozen (p := ⟨c.rb, i, none⟩) hr).trans (h.fr i)⟩

theorem Glob.fr {c : Cfg} (ok : c.ok) {w w' : World} {ea : Addr} (h : Glob w ea) (hf : Fr c w w') : Glob w' ea := by
  obtain ⟨-, -, -, h1, h2, h3⟩ := ok
  have C : ∀ k o v, k < 12 → w.cell? ⟨k, o, none⟩ = some v → w'.cell? ⟨k, o, none⟩ = some v := fun k o v hk hv => by
    rw [← hv]; exact World.cell?_of_block (w := w) (hf.block k (cell_lt hv) (by omega) (by omega) (by omega))
  exact ⟨C _ _ _ (by omega) h.eof, fun i hi => C _ _ _ (by omega) (h.tabs.1 i hi), fun i hi => ⟨C _ _ _ (by omega) (h.tabs.2 i hi).1, C _ _ _ (by omega) (h.tabs.2 i hi).2⟩⟩

theorem Raw.set3 {w : World} {c : Cfg} {cur : List Value} {io : Value} {b : Int} {r e line col : Nat} {ch : Int} {chw ri : Nat} (h : Raw w c cur io b r e line col ch chw ri) (io' : Value) :
    Raw (w.setCell ⟨c.sb, 3, none⟩ (io')) c cur io' b r e line col ch chw ri :=
  ⟨h.ok, (World.cell?_setCell_other _ _ _ _ (by simp)).trans h.c0, (World.cell?_setCell_other _ _ _ _ (by simp)).trans h.c1, (World.cell?_setCell_other _ _ _ _ (by simp)).trans h.c2, World.cell?_setCell_same _ _ _ h.c3, (World.cell?_setCell_other _ _ _ _ (by simp)).trans h.c4, (World.cell?_setCell_other _ _ _ _ (by simp)).trans h.c5, (World.cell?_setCell_other _ _ _ _ (by simp)).trans h.c6, (World.cell?_setCell_other _ _ _ _ (by simp)).trans h.c7, (World.cell?_setCell_other _ _ _ _ (by simp)).trans h.c8, (World.cell?_setCell_other _ _ _ _ (by simp)).trans h.c9, (World.cell?_setCell_other _ _ _ _ (by simp)).trans h.c10,
    fun i => (World.frozen?_setCell _ _ _ _).trans (h.fs i), (Below.heap_setCell _ _ _ _ h.ok.1).trans h.buf, h.len,
    (World.cell?_setCell_other _ _ _ _ (fun e => h.ok.2.1 (congrArg Addr.block e).symm)).trans h.r0, (World.cell?_setCell_other _ _ _ _ (fun e => h.ok.2.1 (congrArg Addr.block e).symm)).trans h.r1,
    let ⟨z, hz⟩ := h.r2; ⟨z, (World.cell?_setCell_other _ _ _ _ (fun e => h.ok.2.1 (congrArg Addr.block e).symm)).trans hz⟩, fun i => (World.frozen?_setCell _ _ _ _).trans (h.fr i)⟩
theorem Raw.set4 {w : World} {c : Cfg} {cur : List Value} {io : Value} {b : Int} {r e line col : Nat} {ch : Int} {chw ri : Nat} (h : Raw w c cur io b r e line col ch chw ri) (b' : Int) :
    Raw (w.setCell ⟨c.sb, 4, none⟩ (.int .i64 b')) c cur io b' r e line col ch chw ri :=
  ⟨h.ok, (World.cell?_setCell_other _ _ _ _ (by simp)).trans h.c0, (World.cell?_setCell_other _ _ _ _ (by simp)).trans h.c1, (World.cell?_setCell_other _ _ _ _ (by simp)).trans h.c2, (World.cell?_setCell_other _ _ _ _ (by simp)).trans h.c3, World.cell?_setCell_same _ _ _ h.c4, (World.cell?_setCell_other _ _ _ _ (by simp)).trans h.c5, (World.cell?_setCell_other _ _ _ _ (by simp)).trans h.c6, (World.cell?_setCell_other _ _ _ _ (by simp)).trans h.c7, (World.cell?_setCell_other _ _ _ _ (by simp)).trans h.c8, (World.cell?_setCell_other _ _ _ _ (by simp)).trans h.c9, (World.cell?_setCell_other _ _ _ _ (by simp)).trans h.c10,
    fun i => (World.frozen?_setCell _ _ _ _).trans (h.fs i), (Below.heap_setCell _ _ _ _ h.ok.1).trans h.buf, h.len,
    (World.cell?_setCell_other _ _ _ _ (fun e => h.ok.2.1 (congrArg Addr.block e).symm)).trans h.r0, (World.cell?_setCell_other _ _ _ _ (fun e => h.ok.2.1 (congrArg Addr.block e).symm)).trans h.r1,
    let ⟨z, hz⟩ := h.r2; ⟨z, (World.cell?_setCell_other _ _ _ _ (fun e => h.ok.2.1 (congrArg Addr.block e).symm)).trans hz⟩, fun i => (World.frozen?_setCell _ _ _ _).trans (h.fr i)⟩
theorem Raw.set5 {w : World} {c : Cfg} {cur : List Value} {io : Value} {b : Int} {r e line col : Nat} {ch : Int} {chw ri : Nat} (h : Raw w c cur io b r e line col ch chw ri) (r' : Nat) :
    Raw (w.setCell ⟨c.sb, 5, none⟩ (.int .i64 (r' : Int))) c cur io b r' e line col ch chw ri :=
  ⟨h.ok, (World.cell?_setCell_other _ _ _ _ (by simp)).trans h.c0, (World.cell?_setCell_other _ _ _ _ (by simp)).trans h.c1, (World.cell?_setCell_other _ _ _ _ (by simp)).trans h.c2, (World.cell?_setCell_other _ _ _ _ (by simp)).trans h.c3, (World.cell?_setCell_other _ _ _ _ (by simp)).trans h.c4, World.cell?_setCell_same _ _ _ h.c5, (World.cell?_setCell_other _ _ _ _ (by simp)).trans h.c6, (World.cell?_setCell_other _ _ _ _ (by simp)).trans h.c7, (World.cell?_setCell_other _ _ _ _ (by simp)).trans h.c8, (World.cell?_setCell_other _ _ _ _ (by simp)).trans h.c9, (World.cell?_setCell_other _ _ _ _ (by simp)).trans h.c10,
    fun i => (World.frozen?_setCell _ _ _ _).trans (h.fs i), (Below.heap_setCell _ _ _ _ h.ok.1).trans h.buf, h.len,
    (World.cell?_setCell_other _ _ _ _ (fun e => h.ok.2.1 (congrArg Addr.block e).symm)).trans h.r0, (World.cell?_setCell_other _ _ _ _ (fun e => h.ok.2.1 (congrArg Addr.block e).symm)).trans h.r1,
    let ⟨z, hz⟩ := h.r2; ⟨z, (World.cell?_setCell_other _ _ _ _ (fun e => h.ok.2.1 (congrArg Addr.block e).symm)).trans hz⟩, fun i => (World.frozen?_setCell _ _ _ _).trans (h.fr i)⟩
theorem Raw.set6 {w : World} {c : Cfg} {cur : List Value} {io : Value} {b : Int} {r e line col : Nat} {ch : Int} {chw ri : Nat} (h : Raw w c cur io b r e line col ch chw ri) (e' : Nat) :
    Raw (w.setCell ⟨c.sb, 6, none⟩ (.int .i64 (e' : Int))) c cur io b r e' line col ch chw ri :=
  ⟨h.ok, (World.cell?_setCell_other _ _ _ _ (by simp)).trans h.c0, (World.cell?_setCell_other _ _ _ _ (by simp)).trans h.c1, (World.cell?_setCell_other _ _ _ _ (by simp)).trans h.c2, (World.cell?_setCell_other _ _ _ _ (by simp)).trans h.c3, (World.cell?_setCell_other _ _ _ _ (by simp)).trans h.c4, (World.cell?_setCell_other _ _ _ _ (by simp)).trans h.c5, World.cell?_setCell_same _ _ _ h.c6, (World.cell?_setCell_other _ _ _ _ (by simp)).trans h.c7, (World.cell?_setCell_other _ _ _ _ (by simp)).trans h.c8, (World.cell?_setCell_other _ _ _ _ (by simp)).trans h.c9, (World.cell?_setCell_other _ _ _ _ (by simp)).trans h.c10,
    fun i => (World.frozen?_setCell _ _ _ _).trans (h.fs i), (Below.heap_setCell _ _ _ _ h.ok.1).trans h.buf, h.len,
    (World.cell?_setCell_other _ _ _ _ (fun e => h.ok.2.1 (congrArg Addr.block e).symm)).trans h.r0, (World.cell?_setCell_other _ _ _ _ (fun e => h.ok.2.1 (congrArg Addr.block e).symm)).trans h.r1,
    let ⟨z, hz⟩ := h.r2; ⟨z, (World.cell?_setCell_other _ _ _ _ (fun e => h.ok.2.1 (congrArg Addr.block e).symm)).trans hz⟩, fun i => (World.frozen?_setCell _ _ _ _).trans (h.fr i)⟩
theorem Raw.set7 {w : World} {c : Cfg} {cur : List Value} {io : Value} {b : Int} {r e line col : Nat} {ch : Int} {chw ri : Nat} (h : Raw w c cur io b r e line col ch chw ri) (line' : Nat) :
    Raw (w.setCell ⟨c.sb, 7, none⟩ (.int .u64 (line' : Int))) c cur io b r e line' col ch chw ri :=
  ⟨h.ok, (World.cell?_setCell_other _ _ _ _ (by simp)).trans h.c0, (World.cell?_setCell_other _ _ _ _ (by simp)).trans h.c1, (World.cell?_setCell_other _ _ _ _ (by simp)).trans h.c2, (World.cell?_setCell_other _ _ _ _ (by simp)).trans h.c3, (World.cell?_setCell_other _ _ _ _ (by simp)).trans h.c4, (World.cell?_setCell_other _ _ _ _ (by simp)).trans h.c5, (World.cell?_setCell_other _ _ _ _ (by simp)).trans h.c6, World.cell?_setCell_same _ _ _ h.c7, (World.cell?_setCell_other _ _ _ _ (by simp)).trans h.c8, (World.cell?_setCell_other _ _ _ _ (by simp)).trans h.c9, (World.cell?_setCell_other _ _ _ _ (by simp)).trans h.c10,
    fun i => (World.frozen?_setCell _ _ _ _).trans (h.fs i), (Below.heap_setCell _ _ _ _ h.ok.1).trans h.buf, h.len,
    (World.cell?_setCell_other _ _ _ _ (fun e => h.ok.2.1 (congrArg Addr.block e).symm)).trans h.r0, (World.cell?_setCell_other _ _ _ _ (fun e => h.ok.2.1 (congrArg Addr.block e).symm)).trans h.r1,
    let ⟨z, hz⟩ := h.r2; ⟨z, (World.cell?_setCell_other _ _ _ _ (fun e => h.ok.2.1 (congrArg Addr.block e).symm)).trans hz⟩, fun i => (World.frozen?_setCell _ _ _ _).trans (h.fr i)⟩
theorem Raw.set8 {w : World} {c : Cfg} {cur : List Value} {io : Value} {b : Int} {r e line col : Nat} {ch : Int} {chw ri : Nat} (h : Raw w c cur io b r e line col ch chw ri) (col' : Nat) :
    Raw (w.setCell ⟨c.sb, 8, none⟩ (.int .u64 (col' : Int))) c cur io b r e line col' ch chw ri :=
  ⟨h.ok, (World.cell?_setCell_other _ _ _ _ (by simp)).trans h.c0, (World.cell?_setCell_other _ _ _ _ (by simp)).trans h.c1, (World.cell?_setCell_other _ _ _ _ (by simp)).trans h.c2, (World.cell?_setCell_other _ _ _ _ (by simp)).trans h.c3, (World.cell?_setCell_other _ _ _ _ (by simp)).trans h.c4, (World.cell?_setCell_other _ _ _ _ (by simp)).trans h.c5, (World.cell?_setCell_other _ _ _ _ (by simp)).trans h.c6, (World.cell?_setCell_other _ _ _ _ (by simp)).trans h.c7, World.cell?_setCell_same _ _ _ h.c8, (World.cell?_setCell_other _ _ _ _ (by simp)).trans h.c9, (World.cell?_setCell_other _ _ _ _ (by simp)).trans h.c10,
    fun i => (World.frozen?_setCell _ _ _ _).trans (h.fs i), (Below.heap_setCell _ _ _ _ h.ok.1).trans h.buf, h.len,
    (World.cell?_setCell_other _ _ _ _ (fun e => h.ok.2.1 (congrArg Addr.block e).symm)).trans h.r0, (World.cell?_setCell_other _ _ _ _ (fun e => h.ok.2.1 (congrArg Addr.block e).symm)).trans h.r1,
    let ⟨z, hz⟩ := h.r2; ⟨z, (World.cell?_setCell_other _ _ _ _ (fun e => h.ok.2.1 (congrArg Addr.block e).symm)).trans hz⟩, fun i => (World.frozen?_setCell _ _ _ _).trans (h.fr i)⟩
theorem Raw.set9 {w : World} {c : Cfg} {cur : List Value} {io : Value} {b : Int} {r e line col : Nat} {ch : Int} {chw ri : Nat} (h : Raw w c cur io b r e line col ch chw ri) (ch' : Int) :
    Raw (w.setCell ⟨c.sb, 9, none⟩ (.int .i32 ch')) c cur io b r e line col ch' chw ri :=
  ⟨h.ok, (World.cell?_setCell_other _ _ _ _ (by simp)).trans h.c0, (World.cell?_setCell_other _ _ _ _ (by simp)).trans h.c1, (World.cell?_setCell_other _ _ _ _ (by simp)).trans h.c2, (World.cell?_setCell_other _ _ _ _ (by simp)).trans h.c3, (World.cell?_setCell_other _ _ _ _ (by simp)).trans h.c4, (World.cell?_setCell_other _ _ _ _ (by simp)).trans h.c5, (World.cell?_setCell_other _ _ _ _ (by simp)).trans h.c6, (World.cell?_setCell_other _ _ _ _ (by simp)).trans h.c7, (World.cell?_setCell_other _ _ _ _ (by simp)).trans h.c8, World.cell?_setCell_same _ _ _ h.c9, (World.cell?_setCell_other _ _ _ _ (by simp)).trans h.c10,
    fun i => (World.frozen?_setCell _ _ _ _).trans (h.fs i), (Below.heap_setCell _ _ _ _ h.ok.1).trans h.buf, h.len,
    (World.cell?_setCell_other _ _ _ _ (fun e => h.ok.2.1 (congrArg Addr.block e).symm)).trans h.r0, (World.cell?_setCell_other _ _ _ _ (fun e => h.ok.2.1 (congrArg Addr.block e).symm)).trans h.r1,
    let ⟨z, hz⟩ := h.r2; ⟨z, (World.cell?_setCell_other _ _ _ _ (fun e => h.ok.2.1 (congrArg Addr.block e).symm)).trans hz⟩, fun i => (World.frozen?_setCell _ _ _ _).trans (h.fr i)⟩
theorem Raw.set10 {w : World} {c : Cfg} {cur : List Value} {io : Value} {b : Int} {r e line col : Nat} {ch : Int} {chw ri : Nat} (h : Raw w c cur io b r e line col ch chw ri) (chw' : Nat) :
    Raw (w.setCell ⟨c.sb, 10, none⟩ (.int .i64 (chw' : Int))) c cur io b r e line col ch chw' ri :=
  ⟨h.ok, (World.cell?_setCell_other _ _ _ _ (by simp)).trans h.c0, (World.cell?_setCell_other _ _ _ _ (by simp)).trans h.c1, (World.cell?_setCell_other _ _ _ _ (by simp)).trans h.c2, (World.cell?_setCell_other _ _ _ _ (by simp)).trans h.c3, (World.cell?_setCell_other _ _ _ _ (by simp)).trans h.c4, (World.cell?_setCell_other _ _ _ _ (by simp)).trans h.c5, (World.cell?_setCell_other _ _ _ _ (by simp)).trans h.c6, (World.cell?_setCell_other _ _ _ _ (by simp)).trans h.c7, (World.cell?_setCell_other _ _ _ _ (by simp)).trans h.c8, (World.cell?_setCell_other _ _ _ _ (by simp)).trans h.c9, World.cell?_setCell_same _ _ _ h.c10,
    fun i => (World.frozen?_setCell _ _ _ _).trans (h.fs i), (Below.heap_setCell _ _ _ _ h.ok.1).trans h.buf, h.len,
    (World.cell?_setCell_other _ _ _ _ (fun e => h.ok.2.1 (congrArg Addr.block e).symm)).trans h.r0, (World.cell?_setCell_other _ _ _ _ (fun e => h.ok.2.1 (congrArg Addr.block e).symm)).trans h.r1,
    let ⟨z, hz⟩ := h.r2; ⟨z, (World.cell?_setCell_other _ _ _ _ (fun e => h.ok.2.1 (congrArg Addr.block e).symm)).trans hz⟩, fun i => (World.frozen?_setCell _ _ _ _).trans (h.fr i)⟩
theorem Raw.drew {w : World} {c : Cfg} {cur : List Value} {io : Value} {b : Int} {r e line col : Nat} {ch : Int} {chw ri : Nat} (h : Raw w c cur io b r e line col ch chw ri) : Raw w.drew c cur io b r e line col ch chw ri :=
  ⟨h.ok, h.c0, h.c1, h.c2, h.c3, h.c4, h.c5, h.c6, h.c7, h.c8, h.c9, h.c10, h.fs, h.buf, h.len, h.r0, h.r1, h.r2, h.fr⟩
theorem Raw.drewN {w : World} {c : Cfg} {cur : List Value} {io : Value} {b : Int} {r e line col : Nat} {ch : Int} {chw ri : Nat} (h : Raw w c cur io b r e line col ch chw ri) (n : Nat) : Raw (w.drewN n) c cur io b r e line col ch chw ri :=
  ⟨h.ok, h.c0, h.c1, h.c2, h.c3, h.c4, h.c5, h.c6, h.c7, h.c8, h.c9, h.c10, h.fs, h.buf, h.len, h.r0, h.r1, h.r2, h.fr⟩
theorem Fr.drewN {c : Cfg} {u w : World} (h : Fr c u w) (n : Nat) : Fr c u (w.drewN n) := ⟨h.os, h.tape, h.output, h.size, h.block, h.cells, h.fz⟩
/-- A byte laid into the buffer. -/
theorem Raw.setBuf {w : World} {c : Cfg} {cur : List Value} {io : Value} {b : Int} {r e line col : Nat} {ch : Int} {chw ri : Nat} (h : Raw w c cur io b r e line col ch chw ri) (i : Nat) (v : Value) :
    Raw (w.setCell ⟨c.bb, i, none⟩ v) c (cur.set i v) io b r e line col ch chw ri := by
  obtain ⟨o1, o2, o3, -⟩ := h.ok
  have S : ∀ j, (w.setCell ⟨c.bb, i, none⟩ v).cell? ⟨c.sb, j, none⟩ = w.cell? ⟨c.sb, j, none⟩ := fun j => World.cell?_setCell_other _ _ _ _ (fun e => o1 (congrArg Addr.block e))
  have R : ∀ j, (w.setCell ⟨c.bb, i, none⟩ v).cell? ⟨c.rb, j, none⟩ = w.cell? ⟨c.rb, j, none⟩ := fun j => World.cell?_setCell_other _ _ _ _ (fun e => o3 (congrArg Addr.block e).symm)
  refine ⟨h.ok, (S _).trans h.c0, (S _).trans h.c1, (S _).trans h.c2, (S _).trans h.c3, (S _).trans h.c4, (S _).trans h.c5, (S _).trans h.c6, (S _).trans h.c7, (S _).trans h.c8, (S _).trans h.c9, (S _).trans h.c10,
    fun i => (World.frozen?_setCell _ _ _ _).trans (h.fs i), ?_, by simpa using h.len, (R _).trans h.r0, (R _).trans h.r1, let ⟨z, hz⟩ := h.r2; ⟨z, (R _).trans hz⟩, fun i => (World.frozen?_setCell _ _ _ _).trans (h.fr i)⟩
  have hb := h.buf
  have hlt : c.bb < w.heap.size := (Array.getElem?_eq_some_iff.1 hb).1
  have hv : w.heap[c.bb] = .cells cur.toArray 5 (0, 0) := (Array.getElem?_eq_some_iff.1 hb).2
  unfold World.setCell
  rw [Array.getElem?_eq_getElem (by simpa using hlt), Array.getElem_modify]
  simp [hv]
/-- The buffer's bytes, one by one. -/
theorem Raw.byte {w : World} {c : Cfg} {cur : List Value} {io : Value} {b : Int} {r e line col : Nat} {ch : Int} {chw ri : Nat} (h : Raw w c cur io b r e line col ch chw ri) {i : Nat} {v : Value} (hv : cur[i]? = some v) :
    w.cell? ⟨c.bb, i, none⟩ = some v := by
  unfold World.cell?
  simp [h.buf, hv]
theorem Raw.bfree {w : World} {c : Cfg} {cur : List Value} {io : Value} {b : Int} {r e line col : Nat} {ch : Int} {chw ri : Nat} (h : Raw w c cur io b r e line col ch chw ri) (i : Nat) : w.frozen? ⟨c.bb, i, none⟩ = false := by
  unfold World.frozen?
  simp [h.buf]

theorem u41 : Tryd.prog.underlying 41 = some (.slice 5) := Tryd.underlying41
theorem i5 : (Tryd.prog.info? 5).map (·.size) = some 1 := by kernel_rfl

/-- What a copy into the buffer's head does: as many cells go over as the source has. -/
theorem copy_head (w : World) (bb dLen dCap xb n m : Nat) (cur cs : List Value) (hb : w.heap[bb]? = some (.cells cur.toArray 5 (0, 0))) (hn : cs.length = n) (hd : n ≤ dLen) (hl : n ≤ cur.length)
    (hx : ∀ j v, cs[j]? = some v → w.cell? ⟨xb, j, none⟩ = some v) (hone : ∀ v ∈ cs, v.oneCell' = true) :
    ∃ w2, Sem.run Tryd.prog (Builtin.copy_ #[41, 41] 3 #[.slice (some ⟨bb, 0, none⟩) dLen dCap, .slice (some ⟨xb, 0, none⟩) n m]) w = .ok (.int .i64 n) w2 ∧
      w2.heap[bb]? = some (.cells (cs ++ cur.drop n).toArray 5 (0, 0)) ∧ (∀ k, k ≠ bb → w2.heap[k]? = w.heap[k]?) ∧ w2.os = w.os ∧ w2.tape = w.tape ∧ w2.output = w.output ∧ w2.heap.size = w.heap.size := by
  have hrun := run_copy_row (P := Tryd.prog) w 41 41 3 5 bb 0 dLen dCap ⟨xb, 0, none⟩ n m cur.toArray 5 cs u41 i5 hb (by rw [hn]; simp [Nat.min_def]; omega)
    (fun j v hj => by
      have h := hx j v hj
      by_cases e : j = 0
      · subst e; simpa [Addr.add] using h
      · simpa [Addr.add, e] using h) (by simpa [hn] using hl) hone
  refine ⟨_, by rw [hrun, hn]; rfl, ?_, fun k hk => setRow_other _ _ _ _ hk, rfl, rfl, rfl, by simp [World.setRow]⟩
  have := setRow_heap w bb _ (cur.toArray.toList.take 0 ++ cs ++ cur.toArray.toList.drop (0 + cs.length)).toArray 5 _ hb
  simpa [hn] using this

set_option maxRecDepth 100000 in
set_option maxHeartbeats 1000000 in
/-- (*bytes.Reader).Read at its end. -/
theorem read_eof (rb : Nat) (n m : Nat) (p : Option Addr) (pl pc : Nat) (xa : Option Addr) (w : World) (E : Value)
    (h0 : w.cell? ⟨rb, 0, none⟩ = some (.slice xa n m)) (h1 : w.cell? ⟨rb, 1, none⟩ = some (.int .i64 n)) (hg : w.cell? ⟨1, 0, none⟩ = some E) :
    Calls Tryd.prog 142 #[.pointer (some ⟨rb, 0, none⟩), .slice p pl pc] w fun e w' => e = .returned (.tuple #[.int .i64 0, E]) ∧ ∃ k, w' = w.drewN k := by
  go_enter Tryd.func142, Tryd.ntmps142
  go_wp2
  go_region
  go_wp2
  go_region
  go_wp2
  go_ret2
  exact ⟨rfl, 2, rfl⟩

/-- Two blocks may have turned, no other. -/
structure Two (x y : Nat) (w w' : World) : Prop where
  os : w'.os = w.os
  tape : w'.tape = w.tape
  output : w'.output = w.output
  size : w'.heap.size = w.heap.size
  block : ∀ k, k ≠ x → k ≠ y → w'.heap[k]? = w.heap[k]?
/-- What the reader and the buffer hold behind the first reading. -/
structure ReadDone (rb bb xb n m : Nat) (row : List Value) (w w' : World) : Prop where
  buf : w'.heap[bb]? = some (.cells row.toArray 5 (0, 0))
  r0 : w'.cell? ⟨rb, 0, none⟩ = some (.slice (some ⟨xb, 0, none⟩) n m)
  r1 : w'.cell? ⟨rb, 1, none⟩ = some (.int .i64 n)
  r2 : ∃ z, w'.cell? ⟨rb, 2, none⟩ = some (.int .i64 z)
  fr : ∀ i, w'.frozen? ⟨rb, i, none⟩ = false
  two : Two bb rb w w'

set_option maxRecDepth 100000 in
set_option maxHeartbeats 1000000 in
/-- (*bytes.Reader).Read at its beginning, the buffer longer than the text: all goes over. -/
theorem read_all (rb bb xb n m : Nat) (w : World) (cur cs : List Value) (hnm : (n : Int) ≤ m) (hn : (n : Int) < 4000) (hn0 : 0 < n) (hcs : cs.length = n) (hcur : cur.length = 4096) (hne : bb ≠ rb) (hnx : xb ≠ rb)
    (h0 : w.cell? ⟨rb, 0, none⟩ = some (.slice (some ⟨xb, 0, none⟩) n m)) (h1 : w.cell? ⟨rb, 1, none⟩ = some (.int .i64 0)) (h2 : ∃ z, w.cell? ⟨rb, 2, none⟩ = some (.int .i64 z))
    (f : ∀ i, w.frozen? ⟨rb, i, none⟩ = false)
    (hb : w.heap[bb]? = some (.cells cur.toArray 5 (0, 0))) (hx : ∀ j v, cs[j]? = some v → w.cell? ⟨xb, j, none⟩ = some v) (hone : ∀ v ∈ cs, v.oneCell' = true) :
    Calls Tryd.prog 142 #[.pointer (some ⟨rb, 0, none⟩), .slice (some ⟨bb, 0, none⟩) 4095 4096] w fun e w' => e = .returned (.tuple #[.int .i64 n, .nilIface]) ∧ ReadDone rb bb xb n m (cs ++ cur.drop n) w w' := by
  obtain ⟨z, hz⟩ := h2
  have hb' : ((w.setCell ⟨rb, 2, none⟩ (.int .i64 (-1))).drew.drew).heap[bb]? = some (.cells cur.toArray 5 (0, 0)) := (Below.heap_setCell _ _ _ _ hne).trans hb
  have hx' : ∀ j v, cs[j]? = some v → ((w.setCell ⟨rb, 2, none⟩ (.int .i64 (-1))).drew.drew).cell? ⟨xb, j, none⟩ = some v := fun j v hj =>
    (World.cell?_setCell_other _ _ _ _ (fun e => hnx (congrArg Addr.block e).symm)).trans (hx j v hj)
  obtain ⟨w2, hcp, k1, k2, k3, k4, k5, k6⟩ := copy_head _ bb 4095 4096 xb n m cur cs hb' hcs (by omega) (by omega) hx' hone
  have g1 : w2.cell? ⟨rb, 1, none⟩ = some (.int .i64 0) := by
    rw [World.cell?_of_block (w := (w.setCell ⟨rb, 2, none⟩ (.int .i64 (-1))).drew.drew) (k2 rb (Ne.symm hne))]
    exact (World.cell?_setCell_other _ _ _ _ (by simp)).trans h1
  have g2 : ∀ i, w2.frozen? ⟨rb, i, none⟩ = false := fun i => by
    rw [World.frozen?_of_block (w := (w.setCell ⟨rb, 2, none⟩ (.int .i64 (-1))).drew.drew) (k2 rb (Ne.symm hne))]
    exact (World.frozen?_setCell _ _ _ _).trans (f i)
  have K := Lib.hid (And.intro k1 (And.intro k2 (And.intro k3 (And.intro k4 (And.intro k5 k6)))))
  clear k1 k2 k3 k4 k5 k6 hb' hx' hb hx
  have hn0' : ¬ (n : Int) ≤ 0 := by omega
  have hn2 : (n == 0) = false := by simp; omega
  have hn3 : decide (n = 0) = false := by simp; omega
  go_enter Tryd.func142, Tryd.ntmps142
  go_wp2
  go_region
  go_wp2
  go_region
  go_wp2
  go_ret2
  obtain ⟨k1, k2, k3, k4, k5, k6⟩ := K.out
  have R : ∀ i, w2.cell? ⟨rb, i, none⟩ = (w.setCell ⟨rb, 2, none⟩ (.int .i64 (-1))).cell? ⟨rb, i, none⟩ := fun i =>
    World.cell?_of_block (w := (w.setCell ⟨rb, 2, none⟩ (.int .i64 (-1)))) (k2 rb (Ne.symm hne))
  refine ⟨rfl, ⟨(Below.heap_setCell _ _ _ _ hne).trans k1, ?_, World.cell?_setCell_same _ _ _ g1, ⟨-1, ?_⟩, fun i => (World.frozen?_setCell _ _ _ _).trans (g2 i), ⟨k3, k4, k5, by simpa [World.setCell, World.drew] using k6, ?_⟩⟩⟩
  · rw [World.cell?_setCell_other _ _ _ _ (by simp), R, World.cell?_setCell_other _ _ _ _ (by simp)]; exact h0
  · rw [World.cell?_setCell_other _ _ _ _ (by simp), R]; exact World.cell?_setCell_same _ _ _ hz
  · intro k h1 h2
    rw [Below.heap_setCell _ _ _ _ h2, k2 k h1]
    exact Below.heap_setCell _ _ _ _ h2

theorem Two.cell {x y : Nat} {w w' : World} (h : Two x y w w') {k : Nat} (h1 : k ≠ x) (h2 : k ≠ y) (i : Nat) : w'.cell? ⟨k, i, none⟩ = w.cell? ⟨k, i, none⟩ := World.cell?_of_block (w := w) (h.block k h1 h2)
theorem Two.fz {x y : Nat} {w w' : World} (h : Two x y w w') {k : Nat} (h1 : k ≠ x) (h2 : k ≠ y) (i : Nat) : w'.frozen? ⟨k, i, none⟩ = w.frozen? ⟨k, i, none⟩ := World.frozen?_of_block (w := w) (h.block k h1 h2)
/-- The source behind the first reading. -/
theorem Raw.readDone {w w' : World} {c : Cfg} {cur row : List Value} {io : Value} {b : Int} {r e line col : Nat} {ch : Int} {chw ri : Nat} (h : Raw w c cur io b r e line col ch chw ri)
    (hl : row.length = 4096) (d : ReadDone c.rb c.bb c.xb c.xn c.xc row w w') : Raw w' c row io b r e line col ch chw c.xn := by
  obtain ⟨o1, o2, o3, -⟩ := h.ok
  have S := d.two.cell (k := c.sb) (Ne.symm o1) (Ne.symm o2)
  exact ⟨h.ok, (S _).trans h.c0, (S _).trans h.c1, (S _).trans h.c2, (S _).trans h.c3, (S _).trans h.c4, (S _).trans h.c5, (S _).trans h.c6, (S _).trans h.c7, (S _).trans h.c8, (S _).trans h.c9, (S _).trans h.c10,
    fun i => (d.two.fz (Ne.symm o1) (Ne.symm o2) i).trans (h.fs i), d.buf, hl, d.r0, d.r1, d.r2, d.fr⟩
theorem Fr.two {c : Cfg} (ok : c.ok) {u w w' : World} (h : Fr c u w) (d : Two c.bb c.rb w w') : Fr c u w' :=
  h.trans ⟨d.os, d.tape, d.output, Nat.le_of_eq d.size.symm, fun k _ _ h2 h3 => d.block k h2 h3, fun i _ => d.cell (Ne.symm ok.1) (Ne.symm ok.2.1) i, fun i => d.fz (Ne.symm ok.1) (Ne.symm ok.2.1) i⟩

end Go.Proofs.YtnehkpoggkfikaaDoor
