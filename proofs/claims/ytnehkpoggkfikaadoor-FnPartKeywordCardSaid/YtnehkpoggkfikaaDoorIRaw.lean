/-
  The raw string's part, of a string. Conditions: the law's own.
-/
import Derived.Test.YtnehkpoggkfikaaDoorZRaw
namespace Go.Proofs.YtnehkpoggkfikaaDoor
open Go.RowKit
set_option linter.unusedVariables false

/-- The bytes of a string, laid as a row. -/
theorem bytes_src (w : World) (src : ByteArray) (cap : Nat) (fz : Nat × Nat) (T : List UInt8) (h : src.data.toList = T) :
    ∀ j v, (bytesV T)[j]? = some v → (w.alloc (.cells (bytesRow src cap) 5 fz)).cell? ⟨w.heap.size, j, none⟩ = some v := by
  intro j v hv
  have hj : j < T.length := by
    have := (List.getElem?_eq_some_iff.1 hv).1
    simpa [bytesV] using this
  unfold World.cell?
  rw [(MapKept.heap_alloc w _).1]
  show (bytesRow src cap)[j]? = some v
  unfold bytesRow
  rw [Array.getElem?_append_left (by subst h; simpa using hj), Array.getElem?_map, ← hv]
  unfold bytesV
  rw [List.getElem?_map, ← h]
  simp

/-- What a reader of a token gives. -/
def ImplPost (R : Tok) (w : World) (e : Ending) (w' : World) : Prop := ∃ p rest kind bad ns, R p rest kind bad ns ∧ PartPost ⟨p.toArray⟩ kind (chOf rest) bad ns w e w'
theorem chOf_bounds {l : List Nat} (h : okAll l) : -2147483648 ≤ chOf l ∧ chOf l ≤ 2147483647 := by
  cases l with
  | nil => simp [chOf]
  | cons x l => have := (okAll_cons.1 h).1; unfold okR at this; simp only [chOf]; omega

/-- A part's block, as the program of the reader lays it. -/
def ipart0 : Obj := .cells #[.string ⟨#[]⟩, .int .i64 0, .bool false, .int .i64 0, .slice none 0 0] 29
def srcW (w : World) (src : ByteArray) (cap : Nat) : World := ((w.alloc ipart0).alloc (.cells (bytesRow src cap) 5 ((bytesRow src cap).size, (bytesRow src cap).size + 1))).drew
structure SrcAt (w : World) (ea : Addr) (src : ByteArray) (T : List UInt8) (cap : Nat) : Prop where
  glob : Glob (srcW w src cap) ea
  text : ∀ j v, (bytesV T)[j]? = some v → (srcW w src cap).cell? ⟨w.heap.size + 1, j, none⟩ = some v
  size : (srcW w src cap).heap.size = w.heap.size + 2
  res : (srcW w src cap).heap[w.heap.size]? = some ipart0
  old : Below w.heap.size w (srcW w src cap)
theorem srcAt {w : World} {ea : Addr} {src : ByteArray} {T : List UInt8} (cap : Nat) (hG : Glob w ea) (hs : src.data.toList = T) : SrcAt w ea src T cap := by
  have g := glob_alloc (glob_alloc hG ipart0) (.cells (bytesRow src cap) 5 ((bytesRow src cap).size, (bytesRow src cap).size + 1))
  have c := bytes_src (w.alloc ipart0) src cap ((bytesRow src cap).size, (bytesRow src cap).size + 1) T hs
  have b := ((Below.refl w.heap.size w).alloc (Nat.le_refl _) ipart0).alloc (by simp) (.cells (bytesRow src cap) 5 ((bytesRow src cap).size, (bytesRow src cap).size + 1))
  rw [show (w.alloc ipart0).heap.size = w.heap.size + 1 by simp] at c
  refine ⟨⟨g.eof, g.tabs⟩, c, by simp [srcW], ?_, ⟨b.os, b.tape, b.output, b.size, b.block⟩⟩
  show ((w.heap.push _).push _)[_]? = _
  rw [Array.getElem?_push, if_neg (by simp), Array.getElem?_push, if_pos rfl]
/-- What stands at a reader's end, ahead of the result's store. -/
structure ImplEnd (w : World) (w4 : World) : Prop where
  r0 : w4.cell? ⟨w.heap.size, 0, none⟩ = some (.string ⟨#[]⟩)
  r1 : w4.cell? ⟨w.heap.size, 1, none⟩ = some (.int .i64 0)
  r2 : w4.cell? ⟨w.heap.size, 2, none⟩ = some (.bool false)
  r3 : w4.cell? ⟨w.heap.size, 3, none⟩ = some (.int .i64 0)
  r4 : w4.cell? ⟨w.heap.size, 4, none⟩ = some (.slice none 0 0)
  rf : ∀ i, w4.frozen? ⟨w.heap.size, i, none⟩ = false
  below : Below w.heap.size w w4
theorem implEnd {w : World} {ea : Addr} {src : ByteArray} {T : List UInt8} {cap : Nat} {w2 w3 : World} (hD : SrcAt w ea src T cap) (h2 : Below (srcW w src cap).heap.size (srcW w src cap) w2) (h3 : Below w2.heap.size w2 w3) : ImplEnd w w3 := by
  have hs := hD.size
  have z := h2.size
  have h := h2.trans (h3.mono (by omega))
  have R : w3.heap[w.heap.size]? = some ipart0 := (h.block _ (by omega)).trans hD.res
  have C : ∀ i, w3.cell? ⟨w.heap.size, i, none⟩ = #[Value.string ⟨#[]⟩, .int .i64 0, .bool false, .int .i64 0, .slice none 0 0][i]? := fun i => by unfold World.cell?; rw [R]; rfl
  refine ⟨C 0, C 1, C 2, C 3, C 4, fun i => ?_, hD.old.trans (h.mono (by omega))⟩
  unfold World.frozen?
  rw [R]
  simp [ipart0]

set_option maxRecDepth 100000 in
set_option maxHeartbeats 1000000 in
theorem raw_calls (src : ByteArray) (l : List Nat) (ea : Addr) (w : World) (hG : Glob w ea) (hok : okAll (96 :: l)) (hs : src.data.toList = encs (96 :: l)) (hmax : (src.size : Int) ≤ 1900) (hw : 12 ≤ w.heap.size) :
    Calls Tryd.prog 21 #[.string src] w (ImplPost (RawIs l) w) := by
  have hcv := fun w s => run_bytes_of_string (P := Tryd.prog) w 9 41 5 s Tryd.underlying9 Tryd.underlying41 Tryd.underlying5
  have hRB : Hid (∀ p rest kind bad ns, RawIs l p rest kind bad ns → -2147483648 ≤ chOf rest ∧ chOf rest ≤ 2147483647) := by
    rintro p rest kind bad ns ⟨-, ⟨pre, h, -⟩ | ⟨-, -, h, -⟩⟩
    · refine chOf_bounds fun x hx => (okAll_cons.1 hok).2 x ?_
      rw [h]; simp [hx]
    · rw [h]; simp [chOf]
  have HG := Lib.hid hG
  have HOK := Lib.hid hok
  have HS := Lib.hid hs
  have hn : Hid (src.size = (encs (96 :: l)).length) := by have := congrArg List.length hs; rw [Array.length_toList] at this; exact this
  clear hG hok hs
  go_enter Tryd.func21, Tryd.ntmps21
  go_wp2_with fail
  have hcap := grownCap_ge (w.alloc ipart0) src.size 0 5
  have hX : Hid (∃ cap, cap = grownCap (w.alloc ipart0) src.size 0 5) := ⟨_, rfl⟩
  obtain ⟨cap, hce⟩ := hX.out
  have HD := Lib.hid (srcAt cap HG.out HS.out)
  rw [← hce] at hcap
  go_at_call 36
  change Calls Tryd.prog 36 #[.slice (some ⟨w.heap.size + 1, 0, none⟩) src.size (grownCap (w.alloc ipart0) src.size 0 5)] (srcW w src (grownCap (w.alloc ipart0) src.size 0 5)) _
  rw [← hce]
  refine (zzRaw_calls (w.heap.size + 1) src.size cap l ea (srcW w src cap) HD.out.glob HOK.out hn.out hmax (Int.ofNat_le.2 hcap) (by rw [HD.out.size]; omega) HD.out.text).mono ?_
  rintro e w2 ⟨p, rest, kind, bad, ns, hR, hns, ta, tc, B, rfl, hrow, hBel⟩
  have hb := hRB.out _ _ _ _ _ hR
  have hR := Lib.hid hR
  have hrow := Lib.hid hrow
  have hBel := Lib.hid hBel
  go_wp2_with (go_at_call 35; refine (partOf_row ⟨p.toArray⟩ kind (chOf rest) bad ns _ B w2 hb.1 hb.2 hns hrow.out).mono ?_; rintro e w3 ⟨v, l', rfl, htx, hrow3, hBel3⟩; obtain ⟨ta3, tc3, rfl⟩ := ownsRow_slice hrow3; obtain ⟨r0, r1, r2, r3, r4, rf, hB4⟩ := implEnd HD.out hBel.out hBel3; have hrow3 := Lib.hid hrow3; have htx := Lib.hid htx; have hB4 := Lib.hid hB4; have hz : Hid (w.heap.size < w2.heap.size) := (by have h1 := hBel.out.size; have h2 := HD.out.size; exact (by omega : w.heap.size < w2.heap.size)); clear hBel3)
  refine bodyPost_ret (v := .agg #[.string ⟨p.toArray⟩, .int .i64 kind, .bool bad, .int .i64 (chOf rest), .slice ta3 l'.length tc3]) (by simp [results, Tryd.results21, go_sem, r0, r1, r2, r3, r4]) rfl ?_
  have hz := hz.out
  exact ⟨p, rest, kind, bad, ns, hR.out, _, l', rfl, htx.out, ownsRow_base (row_set (row_set (row_set (row_set (row_set hrow3.out hz) hz) hz) hz) hz) (Nat.le_of_lt hz), ((((hB4.out.setCell (Nat.le_refl _) _).setCell (Nat.le_refl _) _).setCell (Nat.le_refl _) _).setCell (Nat.le_refl _) _).setCell (Nat.le_refl _) _⟩
end Go.Proofs.YtnehkpoggkfikaaDoor
