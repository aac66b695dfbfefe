/-
  The walks through partOf (what is told is handed on, each with its text) and through the statements' comparison (is). Conditions: each law's own.
-/
import Derived.Test.YtnehkpoggkfikaaDoorSpec1
import Derived.Lib.SmallJoins
import Derived.OwnWalk
namespace Go.Proofs.YtnehkpoggkfikaaDoor
open Go.RowKit
set_option linter.unusedVariables false

abbrev Note := Int × Int × ByteArray
def cellsU (l : List Note) : List Value := l.flatMap fun x => [.int .u64 x.1, .int .u64 x.2.1, .string x.2.2]
def cellsI (l : List Note) : List Value := l.flatMap fun x => [.int .i64 x.1, .int .i64 x.2.1, .string x.2.2]
theorem info36 : (Tryd.prog.info? 36).map (fun i => (i.zero, i.size, i.bytes)) = some (some (.agg #[.int .i64 0, .int .i64 0, .string ByteArray.empty]), 3, 32) := by kernel_rfl

theorem cellsU_len (l : List Note) : (cellsU l).length = l.length * 3 := by
  induction l with
  | nil => rfl
  | cons x l ih => simp only [cellsU, List.flatMap_cons, List.length_append] at *; simp [ih]; omega
theorem cellsU_at {l : List Note} {k : Nat} (h : k < l.length) : (cellsU l)[k * 3]? = some (.int .u64 l[k].1) ∧ (cellsU l)[k * 3 + 1]? = some (.int .u64 l[k].2.1) ∧ (cellsU l)[k * 3 + 2]? = some (.string l[k].2.2) := by
  induction l generalizing k with
  | nil => simp at h
  | cons x l ih =>
    cases k with
    | zero => simp [cellsU]
    | succ k =>
      have := ih (k := k) (by simpa using h)
      have e : cellsU (x :: l) = [.int .u64 x.1, .int .u64 x.2.1, .string x.2.2] ++ cellsU l := rfl
      have q : ∀ j, (cellsU (x :: l))[(k + 1) * 3 + j]? = (cellsU l)[k * 3 + j]? := fun j => by
        rw [e, List.getElem?_append_right (by simp; omega)]
        congr 1; simp; omega
      have q0 := q 0
      simp only [Nat.add_zero] at q0
      rw [q0, q 1, q 2]
      simpa using this
theorem cellsI_snoc (l : List Note) (x : Note) : cellsI (l ++ [x]) = cellsI l ++ [.int .i64 x.1, .int .i64 x.2.1, .string x.2.2] := by simp [cellsI]

theorem ownsRow_base {w : World} {base base' size n : Nat} {e : TypeId} {v : Value} {xs : List Value} (h : w.ownsRow base e size v n xs) (hb : base' ≤ base) : w.ownsRow base' e size v n xs := by
  obtain ⟨h1, h2⟩ := h
  refine ⟨h1, ?_⟩
  rcases h2 with h2 | ⟨g, cap, cur, hv, hg, r⟩
  · exact Or.inl h2
  · exact Or.inr ⟨g, cap, cur, hv, by omega, r⟩

/-- What partOf gives: the part with as much told, each with its text. -/
def PartPost (lit : ByteArray) (kind next : Int) (bad : Bool) (l : List Note) (w : World) (e : Ending) (w' : World) : Prop :=
  ∃ v l', e = .returned (.agg #[.string lit, .int .i64 kind, .bool bad, .int .i64 next, v]) ∧ l'.map (·.2.2) = l.map (·.2.2) ∧ w'.ownsRow w.heap.size 36 3 v l'.length (cellsI l') ∧ Below w.heap.size w w'

set_option maxRecDepth 100000 in
set_option maxHeartbeats 2000000 in
theorem partOf_some (lit : ByteArray) (kind next : Int) (bad : Bool) (g cap : Nat) (l : List Note) (w : World) (h0 : -2147483648 ≤ next) (h1 : next ≤ 2147483647) (hl : l.length ≤ 100000) (hg : g < w.heap.size)
    (hc : ∀ j u, (cellsU l)[j]? = some u → w.cell? ⟨g, j, none⟩ = some u) :
    Calls Tryd.prog 35 #[.agg #[.string lit, .int .i64 kind, .bool bad, .int .i32 next, .slice (some ⟨g, 0, none⟩) l.length cap]] w (PartPost lit kind next bad l w) := by
  obtain ⟨i0, hi, hz0, hz1, hz2⟩ := info_parts info36
  have HI := Lib.hid hi
  have HZ := Lib.hid (And.intro hz0 (And.intro hz1 hz2))
  have HC := Lib.hid hc
  have hl' : (l.length : Int) ≤ 100000 := by omega
  clear hi hz0 hz1 hz2 hc
  go_enter Tryd.func35, Tryd.ntmps35
  go_wp2
  go_loopg [3, 9] l.length (fun gh v i wr => ∃ (k : Nat) (l' : List Note), gh = l.length - k ∧ k ≤ l.length ∧ i = .int .i64 k ∧ Hid (l'.length = k ∧ l'.map (·.2.2) = (l.take k).map (·.2.2) ∧ wr.ownsRow (w.heap.size + 2) 36 3 v l'.length (cellsI l')) ∧
    Below (w.heap.size + 2) ((w.alloc (.cells #[.string lit, .int .i64 kind, .bool bad, .int .i32 next, .slice (some ⟨g, 0, none⟩) l.length cap] 51)).alloc (.cells #[.string ByteArray.empty, .int .i64 0, .bool false, .int .i64 0, .slice none 0 0] 29)) wr)
  case atStart => exact ⟨0, [], by omega, by omega, rfl, ⟨rfl, rfl, World.ownsRow_nil _ _ _ _⟩, Below.refl _ _⟩
  case round =>
    obtain ⟨k, l', rfl, hk, rfl, hO, hB⟩ := hrel
    have HB := Lib.hid hB
    by_cases hlt : k < l.length
    · have hlt' : (k : Int) < (l.length : Int) := by omega
      have hcell : ∀ j u, (cellsU l)[j]? = some u → wr.cell? ⟨g, j, none⟩ = some u := fun j u hu => by
        rw [hB.cell (p := ⟨g, j, none⟩) (by show g < _; omega), World.cell?_alloc_old _ _ _ (by simp; omega), World.cell?_alloc_old _ _ _ (by simp; omega)]
        exact HC.out j u hu
      obtain ⟨a1, a2, a3⟩ := cellsU_at hlt
      have q1 := hcell _ _ a1
      have q2 := hcell _ _ a2
      have q3 := hcell _ _ a3
      have hmap : ∀ l' : List Note, l'.map (·.2.2) = (l.take k).map (·.2.2) → ∀ y : Note, y.2.2 = l[k].2.2 → (l' ++ [y]).map (·.2.2) = (l.take (k + 1)).map (·.2.2) := fun l' h y hy => by
        rw [List.take_succ_eq_append_getElem hlt, List.map_append, List.map_append, h]; simp [hy]
      have HM := Lib.hid hmap
      clear hmap
      generalize l[k] = x at *
      obtain ⟨x1, x2, x3⟩ := x
      clear hcell a1 a2 a3 hB
      go_wp2_with (at_builtin; refine wpList_append_own _ rfl (.tmp 13) (.tmp 23) 27 rfl (w.heap.size + 2) 36 i0 _ 3 32 Tryd.underlying27 HI.out HZ.out.1 HZ.out.2.1 HZ.out.2.2 rfl (by decide) _ _ _ rfl ((hO.out.2.2.alloc _).alloc _) ⟨wr.heap.size + 1, 0, none⟩ 1 1 [.int .i64 (wrap64 x1), .int .i64 (wrap64 x2), .string x3] rfl rfl ?c1 ?c2 ?c3 ?c4 ?c5 ?next)
      case c2 => simp [Value.oneCell']
      case c3 => have := hO.out.1; unfold maxLen; omega
      case c4 => have := hO.out.1; omega
      case c5 => have := HB.out.size; simp at this ⊢; omega
      case next =>
        intro v' w' hown' hgrow _
        have HO := Lib.hid hown'
        have HG := Lib.hid hgrow
        clear hown' hgrow
        go_wp2
        go_roundg (l.length - (k + 1))
        case measure => omega
        case rel => exact ⟨k + 1, l' ++ [(wrap64 x1, wrap64 x2, x3)], rfl, by omega, by go_num, ⟨by have := hO.out.1; simp; omega, HM.out _ hO.out.2.1 _ rfl, by rw [cellsI_snoc, List.length_append]; exact HO.out⟩, HB.out.trans (((((Below.refl _ _).alloc (by have := HB.out.size; simp at this; omega) _).alloc (by have := HB.out.size; simp at this ⊢; omega) _).grown HG.out (by have := HB.out.size; simp at this ⊢; omega) (fun j hj => (hO.out.2.2.lt j hj).1)))⟩
    · obtain rfl : k = l.length := by omega
      have hbox : ∀ i, wr.cell? ⟨w.heap.size, i, none⟩ = #[Value.string lit, .int .i64 kind, .bool bad, .int .i32 next, .slice (some ⟨g, 0, none⟩) l.length cap][i]? := fun i => by
        rw [hB.cell (p := ⟨w.heap.size, i, none⟩) (by show w.heap.size < _; omega), World.cell?_alloc_old _ _ _ (by simp)]
        unfold World.cell?
        rw [(MapKept.heap_alloc w _).1]; rfl
      have b0 := hbox 0
      have b1 := hbox 1
      have b2 := hbox 2
      have b3 := hbox 3
      have hres : ∀ i, wr.cell? ⟨w.heap.size + 1, i, none⟩ = #[Value.string ByteArray.empty, .int .i64 0, .bool false, .int .i64 0, .slice none 0 0][i]? := fun i => by
        rw [hB.cell (p := ⟨w.heap.size + 1, i, none⟩) (by show w.heap.size + 1 < _; omega)]
        unfold World.cell?
        have hs : (w.alloc (.cells #[.string lit, .int .i64 kind, .bool bad, .int .i32 next, .slice (some ⟨g, 0, none⟩) l.length cap] 51)).heap.size = w.heap.size + 1 := by simp
        rw [← hs, (MapKept.heap_alloc _ _).1]; rfl
      have d0 := hres 0
      have d1 := hres 1
      have d2 := hres 2
      have d3 := hres 3
      have d4 := hres 4
      have hfr : ∀ i, wr.frozen? ⟨w.heap.size + 1, i, none⟩ = false := fun i => by
        rw [hB.frozen (p := ⟨w.heap.size + 1, i, none⟩) (by show w.heap.size + 1 < _; omega)]
        unfold World.frozen?
        have hs : (w.alloc (.cells #[.string lit, .int .i64 kind, .bool bad, .int .i32 next, .slice (some ⟨g, 0, none⟩) l.length cap] 51)).heap.size = w.heap.size + 1 := by simp
        rw [← hs, (MapKept.heap_alloc _ _).1]; simp
      obtain ⟨b, n, c, hv⟩ : ∃ b n c, u3 = .slice b n c := by
        rcases Joins.ownsRow_forms hO.out.2.2 with ⟨h, _⟩ | ⟨x, y, h⟩
        · exact ⟨_, _, _, h⟩
        · exact ⟨_, _, _, h⟩
      subst hv
      simp at b0 b1 b2 b3 d0 d1 d2 d3 d4
      clear hbox hres hB
      go_wp2
      refine bodyPost_ret (v := .agg #[.string lit, .int .i64 kind, .bool bad, .int .i64 next, .slice b n c]) (by simp [results, Tryd.results35, go_sem, d0, d1, d2, d3, d4]) rfl ⟨_, l', rfl, ?_, ?_, ?_⟩
      · rw [hO.out.2.1, List.take_of_length_le (Nat.le_refl _)]
      · exact ownsRow_base (ownsRow_setCell_below (ownsRow_setCell_below (ownsRow_setCell_below (ownsRow_setCell_below (ownsRow_setCell_below hO.out.2.2 (by simp) _) (by simp) _) (by simp) _) (by simp) _) (by simp) _) (by omega)
      · exact (((((((Below.refl _ _).alloc (Nat.le_refl _) _).alloc (by simp) _).trans (HB.out.mono (by omega))).setCell (by simp) _).setCell (by simp) _).setCell (by simp) _ |>.setCell (by simp) _).setCell (by simp) _
set_option maxRecDepth 100000 in
set_option maxHeartbeats 2000000 in
theorem partOf_none (lit : ByteArray) (kind next : Int) (bad : Bool) (w : World) (h0 : -2147483648 ≤ next) (h1 : next ≤ 2147483647) :
    Calls Tryd.prog 35 #[.agg #[.string lit, .int .i64 kind, .bool bad, .int .i32 next, .slice none 0 0]] w fun e w' =>
      e = .returned (.agg #[.string lit, .int .i64 kind, .bool bad, .int .i64 next, .slice none 0 0]) ∧ Below w.heap.size w w' := by
  go_enter Tryd.func35, Tryd.ntmps35
  go_wp2
  go_loopg [3, 9] 0 (fun gh v i wr => v = .slice none 0 0 ∧ i = .int .i64 0 ∧
    wr = ((w.alloc (.cells #[.string lit, .int .i64 kind, .bool bad, .int .i32 next, .slice none 0 0] 51)).alloc (.cells #[.string ByteArray.empty, .int .i64 0, .bool false, .int .i64 0, .slice none 0 0] 29)))
  case atStart => exact ⟨rfl, rfl, rfl⟩
  case round =>
    obtain ⟨rfl, rfl, rfl⟩ := hrel
    go_wp2
    refine bodyPost_ret (v := .agg #[.string lit, .int .i64 kind, .bool bad, .int .i64 next, .slice none 0 0]) (by simp [results, Tryd.results35, go_sem]) rfl ⟨rfl, ?_⟩
    exact ((Below.refl _ _).alloc (Nat.le_refl _) _).alloc (by simp) _

theorem is_true (lit : ByteArray) (kind next : Int) (a : Option Addr) (c : Nat) (w : World) :
    Calls Tryd.prog 20 #[.agg #[.string lit, .int .i64 kind, .bool false, .int .i64 next, .slice a 0 c], .string lit, .int .i64 kind, .int .i64 next] w fun e w' => e = .returned (.bool true) ∧ Below w.heap.size w w' := by
  go_enter Tryd.func20, Tryd.ntmps20
  go_wp2
  go_ret
  exact ⟨rfl, (Below.refl _ _).alloc (Nat.le_refl _) _⟩

/-- What partOf gives, of a row of what is told. -/
theorem partOf_row (lit : ByteArray) (kind next : Int) (bad : Bool) (l : List Note) (v : Value) (B : Nat) (w : World) (h0 : -2147483648 ≤ next) (h1 : next ≤ 2147483647) (hl : l.length ≤ 100000)
    (hv : w.ownsRow B 61 3 v l.length (cellsU l)) : Calls Tryd.prog 35 #[.agg #[.string lit, .int .i64 kind, .bool bad, .int .i32 next, v]] w (PartPost lit kind next bad l w) := by
  obtain ⟨hlen, h | ⟨g, cap, cur, rfl, hg, hb, h2, h3, h4, h5⟩⟩ := hv
  · obtain ⟨rfl, h⟩ := h
    have e : l = [] := List.eq_nil_of_length_eq_zero h
    subst e
    refine (partOf_none lit kind next bad w h0 h1).mono ?_
    rintro e w' ⟨rfl, hB⟩
    exact ⟨_, [], rfl, rfl, World.ownsRow_nil _ _ _ _, hB⟩
  · refine partOf_some lit kind next bad g cap l w h0 h1 hl (Array.getElem?_eq_some_iff.1 hb).1 fun j u hu => ?_
    unfold World.cell?
    rw [hb]
    rw [← h5] at hu
    have := (List.getElem?_take (l := cur.toList) (i := l.length * 3) (j := j)).symm.trans hu
    split at this
    · simpa using this
    · cases this
theorem ownsRow_slice {w : World} {B size n : Nat} {e : TypeId} {v : Value} {xs : List Value} (h : w.ownsRow B e size v n xs) : ∃ a c, v = .slice a n c := by
  obtain ⟨-, ⟨rfl, rfl⟩ | ⟨g, cap, cur, rfl, -⟩⟩ := h
  · exact ⟨_, _, rfl⟩
  · exact ⟨_, _, rfl⟩
end Go.Proofs.YtnehkpoggkfikaaDoor
