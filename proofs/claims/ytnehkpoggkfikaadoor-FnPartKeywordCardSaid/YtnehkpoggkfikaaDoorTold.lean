/-
  What the scanner tells: the walks through the handler of errors, and through the functions that call it. Conditions: each law's own.
-/
import Derived.Test.YtnehkpoggkfikaaDoorState
import Derived.Deep.RegionLawGrows
import Derived.Lib.SmallJoins
namespace Go.Proofs.YtnehkpoggkfikaaDoor
open Go.RowKit
set_option linter.unusedVariables false

/-- An append to a row of the call's own, as one step of a region that draws its order. -/
theorem step_append_own {P : Program} {ops : Array Oper} {o : Oper} {a : Act} {w : World} {K : Act → World → Prop} {Q : Exit → Act → World → Prop} {E : Prop}
    (hg : o.guard = none) (s x : Operand) (t : TypeId) (hop : o.op = Op.call { callee := Callee.builtin Builtin.append, args := #[s, x], argTypes := #[t, t] })
    (base : Nat) (e : TypeId) (i : TypeInfo) (z : Value) (size bytes : Nat) (h1 : P.underlying t = some (.slice e)) (h2 : P.info? e = some i) (h3 : i.zero = some z) (h4 : i.size = size) (h5 : i.bytes = bytes) (h6 : z.cells.size = size) (h7 : 0 < size)
    (v : Value) (n : Nat) (xs : List Value) (hs : a.eval s = v) (hown : w.ownsRow base e size v n xs)
    (ad : Addr) (m c : Nat) (news : List Value) (hx : a.eval x = .slice (some ad) m c) (hn : news.length = m * size) (hc : ∀ j u, news[j]? = some u → w.cell? (ad.add j) = some u) (h1c : ∀ u ∈ news, u.oneCell' = true)
    (b1 : n + m ≤ maxLen) (b2 : (n + m) * bytes ≤ 140737488355328) (hbase : base ≤ w.heap.size)
    (hK : ∀ v' w', w'.ownsRow base e size v' (n + m) (xs ++ news) → w.grownBy w' v.ownBlock → K (a.put o.dst v') w') :
    if Region.wanted o (yielded ops a.tmps) = true then Oper.wp P o a w K Q else E := by
  have hw : Region.wanted o (yielded ops a.tmps) = true := by simp [Region.wanted, hg]
  rw [if_pos hw]
  obtain ⟨v', w', hrun, r1, r2, _⟩ := run_append_own (P := P) w base t o.type e i z size bytes h1 h2 h3 h4 h5 h6 h7 v n xs hown ad m c news hn hc h1c b1 b2 hbase
  unfold Oper.wp
  simp [execOp, hop, resolve, invoke, builtin, hs, hx, hrun, Result.andThen]
  exact hK v' w' r1 r2

theorem info61 : (Tryd.prog.info? 61).map (fun i => (i.zero, i.size, i.bytes)) = some (some (.agg #[.int .u64 0, .int .u64 0, .string ByteArray.empty]), 3, 32) := by kernel_rfl

/-- What telling may write: the part's own list of what is told, and memory from B on. -/
structure TF (B pb : Nat) (w w' : World) : Prop where
  os : w'.os = w.os
  tape : w'.tape = w.tape
  output : w'.output = w.output
  size : w.heap.size ≤ w'.heap.size
  block : ∀ k, k < B → k ≠ pb → w'.heap[k]? = w.heap[k]?
  cells : ∀ i, i ≠ 4 → w'.cell? ⟨pb, i, none⟩ = w.cell? ⟨pb, i, none⟩
  fz : ∀ i, w'.frozen? ⟨pb, i, none⟩ = w.frozen? ⟨pb, i, none⟩

/-- What is told: n errors or remarks, three cells each. -/
structure Told (w : World) (pb vb B n : Nat) (xs : List Value) : Prop where
  box : w.cell? ⟨vb, 0, none⟩ = some (.pointer (some ⟨pb, 0, none⟩))
  cell : ∃ v, w.cell? ⟨pb, 4, none⟩ = some v ∧ w.ownsRow B 61 3 v n xs
  fz : ∀ i, w.frozen? ⟨pb, i, none⟩ = false
  n : n ≤ 100000
  b1 : pb < B
  b2 : vb < B
  ne : vb ≠ pb
  size : B ≤ w.heap.size

theorem new3 (w : World) (x y z : Value) : ∀ j u, [x, y, z][j]? = some u → ((w.alloc (.cells #[x, y, z] 61)).drew).cell? ((⟨w.heap.size, 0, none⟩ : Addr).add j) = some u := by
  intro j u h
  have key : ∀ j, ((w.alloc (.cells #[x, y, z] 61)).drew).cell? ⟨w.heap.size, j, none⟩ = #[x, y, z][j]? := fun j => by
    show (w.alloc (.cells #[x, y, z] 61)).cell? _ = _
    unfold World.cell?
    rw [(MapKept.heap_alloc w _).1]
    rfl
  rcases j with _ | _ | _ | j
  · simpa [Addr.add, key] using h
  · simpa [Addr.add, key] using h
  · simpa [Addr.add, key] using h
  · simp at h

set_option maxRecDepth 100000 in
set_option maxHeartbeats 1000000 in
/-- The handler of errors: one is told more. -/
theorem tell_calls (vb pb B n : Nat) (xs : List Value) (l k : Int) (m : ByteArray) (w : World) (h : Told w pb vb B n xs) (hn : n < 100000) :
    Calls Tryd.prog 76 #[.int .u64 l, .int .u64 k, .string m, .pointer (some ⟨vb, 0, none⟩)] w fun e w' => e = .returned (.tuple #[]) ∧ Told w' pb vb B (n + 1) (xs ++ [.int .u64 l, .int .u64 k, .string m]) ∧ TF B pb w w' := by
  obtain ⟨h0, ⟨v, h1, hown⟩, f, -, b1, b2, ne, hB⟩ := h
  obtain ⟨i0, hi, hz0, hz1, hz2⟩ := info_parts info61
  have HI := Lib.hid hi
  have HZ := Lib.hid (And.intro hz0 (And.intro hz1 hz2))
  have HOWN : Hid (((w.alloc (.cells #[.int .u64 l, .int .u64 k, .string m] 61)).drew).ownsRow B 61 3 v n xs) := hown.alloc _
  have HNEW := Lib.hid (new3 w (.int .u64 l) (.int .u64 k) (.string m))
  have hpb : pb < w.heap.size := by omega
  have hvb : vb < w.heap.size := by omega
  have HV : Hid (∀ g, v.ownBlock = some g → B ≤ g) := fun g hg => (hown.lt g hg).1
  have h1' : ∀ o, (w.alloc o).cell? ⟨pb, 4, none⟩ = some v := fun o => (World.cell?_alloc_old _ _ _ (by simp; omega)).trans h1
  have hb1 : (w.alloc (.cells #[.int .u64 l, .int .u64 k, .string m] 61)).heap.size = w.heap.size + 1 := by simp
  have HB1 := Lib.hid hb1
  have hblk : ∀ w', World.grownBy ((w.alloc (.cells #[.int .u64 l, .int .u64 k, .string m] 61)).drew) w' v.ownBlock → ∀ j, j < B → w'.heap[j]? = w.heap[j]? := fun w' hg j hj => by
    rw [hg.block j (by show j < (w.alloc _).heap.size; omega) (fun e => by have := HV.out j e.symm; omega)]
    exact Below.heap_alloc _ _ _ (by omega)
  have hcell : ∀ w', World.grownBy ((w.alloc (.cells #[.int .u64 l, .int .u64 k, .string m] 61)).drew) w' v.ownBlock → w'.cell? ⟨pb, 4, none⟩ = some v := fun w' hg => (World.cell?_of_block (w := w) (hblk w' hg pb b1)).trans h1
  have hfz : ∀ w', World.grownBy ((w.alloc (.cells #[.int .u64 l, .int .u64 k, .string m] 61)).drew) w' v.ownBlock → ∀ i, w'.frozen? ⟨pb, i, none⟩ = false := fun w' hg i => (World.frozen?_of_block (w := w) (hblk w' hg pb b1)).trans (f i)
  have hbox : ∀ w', World.grownBy ((w.alloc (.cells #[.int .u64 l, .int .u64 k, .string m] 61)).drew) w' v.ownBlock → w'.cell? ⟨vb, 0, none⟩ = some (.pointer (some ⟨pb, 0, none⟩)) := fun w' hg => (World.cell?_of_block (w := w) (hblk w' hg vb b2)).trans h0
  have BOX := Lib.hid hbox
  clear hbox
  have BLK := Lib.hid hblk
  have CELL := Lib.hid hcell
  have FZ := Lib.hid hfz
  clear hi hz0 hz1 hz2 hown hb1 hblk hcell hfz
  go_enter Tryd.func76, Tryd.ntmps76
  go_wp2
  go_region_law (refine step_append_own rfl (.tmp 11) (.tmp 16) 49 rfl B 61 i0 _ 3 32 Tryd.underlying49 HI.out HZ.out.1 HZ.out.2.1 HZ.out.2.2 rfl (by decide) v n xs (by simp [Act.eval]) HOWN.out ⟨w.heap.size, 0, none⟩ 1 1 [.int .u64 l, .int .u64 k, .string m] (by simp [Act.eval]) rfl HNEW.out (by simp [Value.oneCell']) (by unfold maxLen; omega) (by omega) (by have := HB1.out; show B ≤ (w.alloc _).heap.size; omega) ?_; intro v' w' hown' hgrow; have HO := Lib.hid hown'; have HG := Lib.hid hgrow; obtain ⟨g, cap, hv'⟩ := Joins.ownsRow_form hown' (by omega); subst hv'; have q0 := BOX.out w' hgrow; have q1 := CELL.out w' hgrow; have q2 := FZ.out w' hgrow; clear hown' hgrow)
  all_goals
    go_wp2
    go_end0
    have HA := BLK.out _ HG.out
    refine ⟨rfl, ⟨?_, ⟨_, World.cell?_setCell_same _ _ _ q1, ?_⟩, fun i => (World.frozen?_setCell _ _ _ _).trans (q2 i), by omega, b1, b2, ne, ?_⟩, ?_⟩
    · rw [World.cell?_setCell_other _ _ _ _ (fun e => ne (congrArg Addr.block e).symm)]
      exact (World.cell?_of_block (w := w) (HA vb b2)).trans h0
    · exact ownsRow_setCell_below HO.out (by omega) _
    · have := HG.out.size
      have h1 := HB1.out
      show B ≤ (World.setCell _ _ _).heap.size
      simp only [World.setCell, Array.size_modify]
      have : (w.alloc (.cells #[.int .u64 l, .int .u64 k, .string m] 61)).heap.size ≤ _ := this
      omega
    · refine ⟨HG.out.os, HG.out.tape, HG.out.output, ?_, fun j h1 h2 => ?_, fun i hi => ?_, fun i => ?_⟩
      · have := HG.out.size
        have h1 := HB1.out
        simp only [World.setCell, Array.size_modify]
        have : (w.alloc (.cells #[.int .u64 l, .int .u64 k, .string m] 61)).heap.size ≤ _ := this
        omega
      · rw [Below.heap_setCell _ _ _ _ h2]; exact HA j h1
      · rw [World.cell?_setCell_other _ _ _ _ (fun e => hi (congrArg Addr.off e).symm)]
        exact World.cell?_of_block (w := w) (HA pb b1)
      · exact (World.frozen?_setCell _ _ _ _).trans (World.frozen?_of_block (w := w) (HA pb b1))

end Go.Proofs.YtnehkpoggkfikaaDoor
