/-
  The walk through the statements' own Quoted: a text between quotes. Conditions: the law's own. (Printed by genquo.py.)
-/
import Derived.Test.YtnehkpoggkfikaaDoorSA
import Derived.Test.YtnehkpoggkfikaaDoorShelf
import Derived.Test.YtnehkpoggkfikaaDoorOpen
import Derived.Lib.OthersKept
import Derived.Lib.OwnKind
import Derived.RangeFuncBox
import Derived.Laws.OwnMore
namespace Go.Proofs.YtnehkpoggkfikaaDoor
open Go.RowKit
set_option linter.unusedVariables false

/-- A row of bytes that grows while a string is ranged over. -/
structure QAt (w wr : World) (s : ByteArray) (k pos : Nat) (v : Value) (T : List UInt8) : Prop where
  own : wr.ownsRow w.heap.size 5 1 v T.length (bytesV T)
  it : wr.heap[k]? = some (.stringIter s pos)
  k : w.heap.size ≤ k
  below : Below w.heap.size w wr
section
variable {w wr : World} {s : ByteArray} {k pos : Nat} {v : Value} {T : List UInt8}
theorem QAt.next (h : QAt w wr s k pos v T) (pos' : Nat) : QAt w (wr.iterAt k s pos') s k pos' v T :=
  ⟨ownsRow_putObj h.own _ h.it rfl, Lib.iterAt_heap wr k s pos pos' h.it, h.k, Lib.below_iterAt h.below h.k s pos'⟩
theorem QAt.lt (h : QAt w wr s k pos v T) : k < wr.heap.size := (Array.getElem?_eq_some_iff.1 h.it).1
theorem QAt.size (h : QAt w wr s k pos v T) : w.heap.size ≤ wr.heap.size := h.below.size
theorem QAt.ne (h : QAt w wr s k pos v T) : v.ownBlock ≠ some k := fun e => by
  obtain ⟨c, fz, hc⟩ := Lib.ownsRow_kind h.own k e
  rw [h.it] at hc
  injection hc with hc; cases hc
theorem QAt.append (h : QAt w wr s k pos v T) {o : Obj} {news : List UInt8} {m : Nat} {nv : List Value} {v' : Value} {w' : World} (hown : w'.ownsRow w.heap.size 5 1 v' (T.length + m) (bytesV T ++ nv)) (hg : (wr.alloc o).grownBy w' v.ownBlock)
    (hm : news.length = m) (hv : bytesV news = nv) : QAt w w' s k pos v' (T ++ news) := by
  subst hm hv
  have hlt := h.lt
  refine ⟨by rw [List.length_append]; simpa [bytesV] using hown, ?_, h.k, ?_⟩
  · rw [hg.block k (by simp; omega) (Ne.symm h.ne)]
    show (wr.heap.push o)[k]? = _
    rw [Array.getElem?_push, if_neg (by omega)]; exact h.it
  · exact (h.below.alloc h.size o).grown hg (by have := h.size; simp; omega) (fun j hj => (h.own.lt j hj).1)
theorem QAt.append0 (h : QAt w wr s k pos v T) {o : Obj} {news : List UInt8} {nv : List Value} {n : Nat} {v' : Value} {w' : World} (hown : w'.ownsRow w.heap.size 5 1 v' n (bytesV T ++ nv)) (hg : (wr.alloc o).grownBy w' v.ownBlock)
    (hm : n = T.length + news.length) (hv : nv = bytesV news) : QAt w w' s k pos v' (T ++ news) := by
  subst hm hv
  exact h.append hown hg rfl rfl
theorem qAt_start (w : World) (s : ByteArray) (q : UInt8) : QAt w ((w.alloc (.cells #[.int .u8 (q.toNat : Int)] 5)).iter s 0) s (w.heap.size + 1) 0 (.slice (some ⟨w.heap.size, 0, none⟩) 1 1) [q] := by
  refine ⟨?_, ?_, by omega, ?_⟩
  · have h := World.ownsRow_lit (base := w.heap.size) (size := 1) (e := 5) w #[.int .u8 (q.toNat : Int)] 1 (Nat.le_refl _) (by unfold maxLen; omega) rfl
    exact h.alloc _
  · have := World.iter_heap (w.alloc (.cells #[.int .u8 (q.toNat : Int)] 5)) s 0
    simpa using this
  · exact ((Below.refl _ _).alloc (Nat.le_refl _) _).alloc (by simp) _
end

/-- The characters of a text, some of them ranged over. -/
def RunAt (s : ByteArray) (all rs rest : List Nat) (pos : Nat) : Prop := all = rs ++ rest ∧ s.data.toList = encs all ∧ okAll all ∧ pos = (encs rs).length
theorem runAt_start {s : ByteArray} {all : List Nat} (h : s.data.toList = encs all) (ho : okAll all) : RunAt s all [] all 0 := ⟨rfl, h, ho, rfl⟩
theorem runAt_next {s : ByteArray} {all rs rest : List Nat} {pos x : Nat} (h : RunAt s all rs (x :: rest) pos) : pos < s.size ∧ Utf8.decode s pos = (x, (enc x).length) ∧ okR x ∧ RunAt s all (rs ++ [x]) rest (pos + (enc x).length) := by
  obtain ⟨h1, h2, h3, h4⟩ := h
  have hx : okR x := h3 x (by rw [h1]; simp)
  have hl : s.data.toList.length = s.size := rfl
  have hd : s.data.toList.drop pos = enc x ++ encs rest := by rw [h2, h1, h4, encs_append, List.drop_left' rfl]; rfl
  refine ⟨?_, ?_, hx, by rw [h1]; simp, h2, h3, ?_⟩
  · rw [← hl, h2, h1, h4, encs_append]
    have := enc_len_pos x
    simp [encs]; omega
  · rw [← Lib.decodeL_drop, hd, dec_enc x hx]
  · rw [h4, encs_append]; simp [encs]
theorem runAt_end {s : ByteArray} {all rs : List Nat} {pos : Nat} (h : RunAt s all rs [] pos) : ¬ pos < s.size ∧ rs = all := by
  obtain ⟨h1, h2, h3, h4⟩ := h
  simp at h1
  have hl : s.data.toList.length = s.size := rfl
  refine ⟨?_, h1.symm⟩
  rw [← hl, h2, h4, h1]; omega

theorem hexDig : ∀ d : Fin 16, ((⟨#[48, 49, 50, 51, 52, 53, 54, 55, 56, 57, 97, 98, 99, 100, 101, 102]⟩ : ByteArray)[d.val]'(show d.val < 16 from d.isLt)).toNat = hexC d.val := by decide +kernel

theorem q_val {q : Nat} (hq : q = 34 ∨ q = 39) : q.toUInt8.toNat = q := by rcases hq with rfl | rfl <;> rfl
theorem quo_snoc {q : Nat} {full : Bool} {rs : List Nat} {T : List UInt8} {x : Nat} (h : T = encs (q :: unitsQ q full rs) ∧ T.length ≤ 10 * rs.length + 1) (U : List Nat) (B : List UInt8) (hU : unitQ q full x = U) (hB : encs U = B) (hl : B.length ≤ 10) :
    T ++ B = encs (q :: unitsQ q full (rs ++ [x])) ∧ (T ++ B).length ≤ 10 * (rs ++ [x]).length + 1 := by
  refine ⟨?_, by have := h.2; simp; omega⟩
  rw [h.1, ← hB, ← hU]
  simp only [encs, unitsQ, List.flatMap_append, List.flatMap_cons, List.flatMap_nil, List.append_nil, encs_append, List.append_assoc]
theorem run_small {s : ByteArray} {all rs rest : List Nat} {pos : Nat} (h : RunAt s all rs rest pos) (h60 : s.size ≤ 60) : rs.length ≤ 60 := by
  obtain ⟨h1, h2, h3, h4⟩ := h
  have hl : s.data.toList.length = s.size := rfl
  have hle : ∀ l : List Nat, l.length ≤ (encs l).length := fun l => by
    induction l with
    | nil => simp
    | cons x l ih => have := enc_len_pos x; simp [encs]; omega
  have := hle rs
  rw [h2, h1, encs_append] at hl
  simp at hl; omega
theorem bytes_cells {w : World} {B n : Nat} {v : Value} {xs : List Value} (L : List UInt8) (h : w.ownsRow B 5 1 v n xs) (hx : xs = bytesV L) (hn : n = L.length) (h0 : 0 < n) : ∃ g cap, v = .slice (some ⟨g, 0, none⟩) n cap ∧ Sem.run Tryd.prog (convert 41 9 (.slice (some ⟨g, 0, none⟩) n cap)) w = .ok (.string ⟨L.toArray⟩) w := by
  subst hx
  obtain ⟨g, cap, rfl⟩ := Joins.ownsRow_form h h0
  refine ⟨g, cap, rfl, ?_⟩
  subst hn
  exact run_convert_bytes_back (P := Tryd.prog) w 41 9 5 ⟨g, 0, none⟩ cap L Tryd.underlying41 Tryd.underlying5 Tryd.underlying9 fun j hj => h.cells (g := g) rfl j _ (by unfold bytesV; rw [List.getElem?_map, List.getElem?_eq_getElem hj]; rfl)
theorem new_cells (w : World) (cs : Array Value) : ∀ j u, cs.toList[j]? = some u → (w.alloc (.cells cs 5)).cell? ((⟨w.heap.size, 0, none⟩ : Addr).add j) = some u := by
  intro j u h
  have key : (w.alloc (.cells cs 5)).cell? ⟨w.heap.size, j, none⟩ = some u := by
    unfold World.cell?
    rw [(MapKept.heap_alloc w _).1]
    simpa using h
  unfold Addr.add
  split
  · rename_i h0; subst h0; exact key
  · simpa using key
def hexB (x : Nat) : List UInt8 := (hex8 x).map Nat.toUInt8
theorem encs_ascii (l : List Nat) (h : ∀ c ∈ l, c < 128) : encs l = l.map Nat.toUInt8 := by
  induction l with
  | nil => rfl
  | cons c l ih => simp only [encs, List.map_cons, enc_ascii c (h c (by simp)), ih (fun x hx => h x (by simp [hx]))]; rfl
theorem hexC_lt (d : Nat) (h : d < 16) : hexC d < 128 := by unfold hexC; split <;> omega
theorem hex8_lt (x : Nat) : ∀ c ∈ hex8 x, c < 128 := by
  intro c hc
  unfold hex8 at hc
  simp only [List.mem_cons, List.not_mem_nil, or_false] at hc
  rcases hc with rfl | rfl | rfl | rfl | rfl | rfl | rfl | rfl <;> exact hexC_lt _ (by omega)
theorem hexB_eq (x : Nat) : encs (hex8 x) = hexB x := encs_ascii _ (hex8_lt x)
theorem enc85 : encs [92, 85] = [92, 85] := by decide +kernel
theorem hexB_unit (x : Nat) : encs (92 :: 85 :: hex8 x) = [92, 85] ++ hexB x := by
  rw [show 92 :: 85 :: hex8 x = [92, 85] ++ hex8 x from rfl, encs_append, hexB_eq, enc85]
theorem hexB_len (x : Nat) : (hexB x).length = 8 := by simp [hexB, hex8]
theorem and15 (y : Nat) (h : y < 2147483648) : bits .and .i32 (y : Int) 15 = ((y % 16 : Nat) : Int) := by
  have := bits_mask .i32 31 (by decide) (fun n a b => wraps_i32 n a (by simpa using b)) 4 (by decide) (y : Int) (by omega) (by simp; omega)
  simpa using this
theorem hexAt (d : Nat) (h : d < 16) (h2 : d < (⟨#[48, 49, 50, 51, 52, 53, 54, 55, 56, 57, 97, 98, 99, 100, 101, 102]⟩ : ByteArray).size) : ((⟨#[48, 49, 50, 51, 52, 53, 54, 55, 56, 57, 97, 98, 99, 100, 101, 102]⟩ : ByteArray)[d]'h2).toNat = hexC d := by
  exact hexDig ⟨d, h⟩
theorem and15d (x pw : Nat) (h : x < 2147483648) : bits .and .i32 ((x : Int) / (pw : Int)) 15 = ((x / pw % 16 : Nat) : Int) := by
  rw [← Int.natCast_ediv]
  exact and15 _ (Nat.lt_of_le_of_lt (Nat.div_le_self _ _) h)
theorem hexC_val (d : Nat) (h : d < 16) : (hexC d).toUInt8.toNat = hexC d := by have := hexC_lt d h; simp; omega
theorem runeCells_bytes (x : Nat) : Lib.runeCells (x : Int) = bytesV (enc x) := (Lib.byteCells_encodeRune (x : Int)).symm.trans rfl
end Go.Proofs.YtnehkpoggkfikaaDoor
