/-
  The part that a scanner gives: zzOf, and the raw string's. Conditions: each law's own.
-/
import Derived.Test.YtnehkpoggkfikaaDoorOpen
import Derived.Test.YtnehkpoggkfikaaDoorRaw
namespace Go.Proofs.YtnehkpoggkfikaaDoor
open Go.RowKit
set_option linter.unusedVariables false

/-- A part's block, nothing in it. -/
def part0 : Obj := .cells #[.string ⟨#[]⟩, .int .i64 0, .bool false, .int .i32 0, .slice none 0 0] 51
theorem part0_cells (w : World) : (w.alloc part0).cell? ⟨w.heap.size, 0, none⟩ = some (.string ⟨#[]⟩) ∧ (w.alloc part0).cell? ⟨w.heap.size, 1, none⟩ = some (.int .i64 0) ∧ (w.alloc part0).cell? ⟨w.heap.size, 2, none⟩ = some (.bool false) ∧
    (w.alloc part0).cell? ⟨w.heap.size, 3, none⟩ = some (.int .i32 0) ∧ (w.alloc part0).cell? ⟨w.heap.size, 4, none⟩ = some (.slice none 0 0) := by
  have key : ∀ j, (w.alloc part0).cell? ⟨w.heap.size, j, none⟩ = #[Value.string ⟨#[]⟩, .int .i64 0, .bool false, .int .i32 0, .slice none 0 0][j]? := fun j => by
    unfold World.cell?
    rw [(MapKept.heap_alloc w _).1]
    rfl
  exact ⟨key 0, key 1, key 2, key 3, key 4⟩
theorem part0_frozen (w : World) (i : Nat) : (w.alloc part0).frozen? ⟨w.heap.size, i, none⟩ = false := by
  unfold World.frozen?
  rw [(MapKept.heap_alloc w _).1]
  simp [part0]
theorem alloc_cell {w : World} (o : Obj) {a : Addr} {v : Value} (h : w.cell? a = some v) : (w.alloc o).cell? a = some v := by
  rw [← h]; exact World.cell?_of_block (w := w) (by show (w.heap.push o)[a.block]? = _; rw [Array.getElem?_push, if_neg (by have := cell_lt h; omega)])
theorem alloc_frozen {w : World} (o : Obj) (a : Addr) (h : a.block < w.heap.size) : (w.alloc o).frozen? a = w.frozen? a := by
  unfold World.frozen?
  rw [show (w.alloc o).heap[a.block]? = w.heap[a.block]? from by show (w.heap.push o)[a.block]? = _; rw [Array.getElem?_push, if_neg (by omega)]]

/-- Memory kept but for one block, and what is new. -/
structure Keeps (pb : Nat) (w w' : World) : Prop where
  block : ∀ k, k < w.heap.size → k ≠ pb → w'.heap[k]? = w.heap[k]?
  size : w.heap.size ≤ w'.heap.size
  os : w'.os = w.os
  tape : w'.tape = w.tape
  output : w'.output = w.output
theorem Keeps.set {pb : Nat} {w w' : World} (h : Keeps pb w w') {b : Nat} (hb : b = pb ∨ w.heap.size ≤ b) (i : Nat) (v : Value) : Keeps pb w (w'.setCell ⟨b, i, none⟩ v) :=
  ⟨fun k hk hp => (Below.heap_setCell _ _ _ _ (by rcases hb with rfl | hb <;> first | exact hp | (show k ≠ b; omega))).trans (h.block k hk hp), by simpa [World.setCell] using h.size, h.os, h.tape, h.output⟩
theorem Keeps.drew {pb : Nat} {w w' : World} (h : Keeps pb w w') : Keeps pb w w'.drew := ⟨h.block, h.size, h.os, h.tape, h.output⟩

set_option maxRecDepth 100000 in
set_option maxHeartbeats 1000000 in
/-- zzOf. -/
theorem zzOf_calls (sb pb : Nat) (lit : ByteArray) (kind ch : Int) (bad : Bool) (ta : Option Addr) (tl tc : Nat) (w : World) (v0 v1 v2 v3 : Value)
    (h17 : w.cell? ⟨sb, 17, none⟩ = some (.string lit)) (h19 : w.cell? ⟨sb, 19, none⟩ = some (.int .u8 kind)) (h18 : w.cell? ⟨sb, 18, none⟩ = some (.bool bad)) (h9 : w.cell? ⟨sb, 9, none⟩ = some (.int .i32 ch))
    (p0 : w.cell? ⟨pb, 0, none⟩ = some v0) (p1 : w.cell? ⟨pb, 1, none⟩ = some v1) (p2 : w.cell? ⟨pb, 2, none⟩ = some v2) (p3 : w.cell? ⟨pb, 3, none⟩ = some v3) (p4 : w.cell? ⟨pb, 4, none⟩ = some (.slice ta tl tc))
    (pf : ∀ i, w.frozen? ⟨pb, i, none⟩ = false) (hne : pb ≠ sb) (hk : 0 ≤ kind ∧ kind < 256) :
    Calls Tryd.prog 56 #[.pointer (some ⟨sb, 0, none⟩), .pointer (some ⟨pb, 0, none⟩)] w fun e w' =>
      e = .returned (.agg #[.string lit, .int .i64 kind, .bool bad, .int .i32 ch, .slice ta tl tc]) ∧ Keeps pb w w' := by
  have hb : pb < w.heap.size := cell_lt p4
  have hs : sb < w.heap.size := cell_lt h9
  have q17 := alloc_cell part0 h17
  have q19 := alloc_cell part0 h19
  have q18 := alloc_cell part0 h18
  have q9 := alloc_cell part0 h9
  have r0 := alloc_cell part0 p0
  have r1 := alloc_cell part0 p1
  have r2 := alloc_cell part0 p2
  have r3 := alloc_cell part0 p3
  have r4 := alloc_cell part0 p4
  have rf : ∀ i, (w.alloc part0).frozen? ⟨pb, i, none⟩ = false := fun i => (alloc_frozen part0 ⟨pb, i, none⟩ hb).trans (pf i)
  obtain ⟨n0, n1, n2, n3, n4⟩ := part0_cells w
  have nf := part0_frozen w
  have hsz : Hid (Keeps pb w (w.alloc part0)) := ⟨fun k hk _ => by show (w.heap.push _)[k]? = _; rw [Array.getElem?_push, if_neg (by omega)], by simp, rfl, rfl, rfl⟩
  have hn1 : ¬ w.heap.size = pb := by omega
  have hn2 : ¬ w.heap.size = sb := by omega
  clear h17 h19 h18 h9 p0 p1 p2 p3 p4 pf
  go_enter Tryd.func56, Tryd.ntmps56
  go_wp2
  change Code.wp _ _ _ _ (w.alloc part0)
  generalize w.alloc part0 = W at *
  go_region
  go_wp2
  refine bodyPost_ret (v := .agg #[.string lit, .int .i64 kind, .bool bad, .int .i32 ch, .slice ta tl tc]) (by simp [results, Tryd.results56, go_sem, n0, n1, n2, n3, n4]) rfl ?_
  exact ⟨rfl, (((((((((hsz.out.set (.inl rfl) _ _).set (.inl rfl) _ _).set (.inl rfl) _ _).set (.inl rfl) _ _).set (.inr (Nat.le_refl _)) _ _).set (.inr (Nat.le_refl _)) _ _).set (.inr (Nat.le_refl _)) _ _).set (.inr (Nat.le_refl _)) _ _).set (.inr (Nat.le_refl _)) _ _).drew⟩
end Go.Proofs.YtnehkpoggkfikaaDoor
