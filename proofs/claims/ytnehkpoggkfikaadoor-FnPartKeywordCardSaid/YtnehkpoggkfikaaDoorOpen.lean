/-
  A scanner made over a text, at its first character (zzAt). Conditions: the text begins with a character, and is of characters, at most 1900 bytes.
-/
import Derived.Test.YtnehkpoggkfikaaDoorAt
import Derived.Deep.OwnRows
import Derived.Laws.EntriesVeiled
namespace Go.Proofs.YtnehkpoggkfikaaDoor
open Go.RowKit
set_option linter.unusedVariables false
def buf0 : Array Value := madeCells #[.int .u8 0] 4096
theorem info5 : (Tryd.prog.info? 5).map (fun i => (i.zero, i.size, i.bytes)) = some (some (.int .u8 0), 1, 1) := by kernel_rfl
theorem make_buf (w : World) : Sem.run Tryd.prog (Instr.makeSlice 41 (.int .i64 4096) (.int .i64 4096)) w = .ok (.slice (some ⟨w.heap.size, 0, none⟩) 4096 4096) (w.alloc (.cells buf0 5)) := by
  have := run_make_row' (P := Tryd.prog) 41 5 (.int .u8 0) 1 u41 info5 rfl .i64 .i64 4096 (by omega) (by omega) w
  exact this
theorem buf0_head : buf0[0]? = some (.int .u8 0) := by
  unfold buf0 madeCells
  simp

set_option maxRecDepth 100000 in
set_option maxHeartbeats 1000000 in
theorem start_calls (c : Cfg) (cur : List Value) (io : Value) (b : Int) (r e line col : Nat) (ch : Int) (chw ri : Nat) (w : World) (h : Raw w c cur io b r e line col ch chw ri) (hr : (r : Int) ≤ 3000) (hw : chw = r) :
    Calls Tryd.prog 78 #[.pointer (some ⟨c.sb, 0, none⟩)] w (Filled c w cur io 0 r e line col ch chw ri) := by
  have H := Lib.hid h
  have c4 := h.c4
  have c5 := h.c5
  have c10 := h.c10
  have fs := h.fs
  subst hw
  clear h
  go_enter Tryd.func78, Tryd.ntmps78
  go_wp2
  go_region
  go_wp2
  go_end0
  exact ⟨rfl, (H.out.set4 0).drew, ((Fr.refl c w).setCell (.inl ⟨rfl, by simp⟩) _).drew⟩

/-- The scanner's block as it is laid, the buffer's first cell set. -/
def laidW (w : World) (pb xb xn xc : Nat) (m : Int) (BUF : Array Value) : World :=
  (((w.alloc (.cells #[.pointer (some ⟨pb, 0, none⟩)] 64)).alloc (.cells #[.iface 87 (.pointer (some ⟨w.heap.size + 1 + 1, 0, none⟩)), .func (.func 76) #[] #[.pointer (some ⟨w.heap.size, 0, none⟩)],
    .slice (some ⟨w.heap.size + 1 + 1 + 1, 0, none⟩) 4096 4096, .nilIface, .int .i64 (-1), .int .i64 0, .int .i64 0, .int .u64 0, .int .u64 0, .int .i32 32, .int .i64 0, .int .u64 m, .bool false, .int .u64 0, .int .u64 0, .bool false,
    .int .u64 0, .string ⟨#[]⟩, .bool false, .int .u8 0, .int .u64 0, .int .i64 0] 77)).alloc (.cells #[.slice (some ⟨xb, 0, none⟩) xn xc, .int .i64 0, .int .i64 (-1)] 127)).alloc (.cells (BUF.setIfInBounds 0 (.int .u8 128)) 5)
def cfgOf (w : World) (xb xn xc : Nat) (ea : Addr) : Cfg := ⟨w.heap.size + 1, w.heap.size + 1 + 1 + 1, w.heap.size + 1 + 1, xb, xn, xc, .func (.func 76) #[] #[.pointer (some ⟨w.heap.size, 0, none⟩)], ea⟩

theorem laidW_size (w : World) (pb xb xn xc : Nat) (m : Int) (BUF : Array Value) : (laidW w pb xb xn xc m BUF).heap.size = w.heap.size + 4 := by simp [laidW]
theorem laidW_heap (w : World) (pb xb xn xc : Nat) (m : Int) (BUF : Array Value) :
    (laidW w pb xb xn xc m BUF).heap[w.heap.size]? = some (.cells #[.pointer (some ⟨pb, 0, none⟩)] 64) ∧
    (∃ C t, (laidW w pb xb xn xc m BUF).heap[w.heap.size + 1]? = some (.cells C t) ∧ C = #[.iface 87 (.pointer (some ⟨w.heap.size + 1 + 1, 0, none⟩)), .func (.func 76) #[] #[.pointer (some ⟨w.heap.size, 0, none⟩)],
    .slice (some ⟨w.heap.size + 1 + 1 + 1, 0, none⟩) 4096 4096, .nilIface, .int .i64 (-1), .int .i64 0, .int .i64 0, .int .u64 0, .int .u64 0, .int .i32 32, .int .i64 0, .int .u64 m, .bool false, .int .u64 0, .int .u64 0, .bool false,
    .int .u64 0, .string ⟨#[]⟩, .bool false, .int .u8 0, .int .u64 0, .int .i64 0]) ∧
    (laidW w pb xb xn xc m BUF).heap[w.heap.size + 1 + 1]? = some (.cells #[.slice (some ⟨xb, 0, none⟩) xn xc, .int .i64 0, .int .i64 (-1)] 127) ∧
    (laidW w pb xb xn xc m BUF).heap[w.heap.size + 1 + 1 + 1]? = some (.cells (BUF.setIfInBounds 0 (.int .u8 128)) 5) ∧
    (∀ k, k < w.heap.size → (laidW w pb xb xn xc m BUF).heap[k]? = w.heap[k]?) := by
  have key : ∀ (u : World) (o : Obj) (k : Nat), (u.alloc o).heap[k]? = if k = u.heap.size then some o else u.heap[k]? := fun u o k => by
    show (u.heap.push o)[k]? = _
    rw [Array.getElem?_push]
  have s1 : ∀ (u : World) (o : Obj), (u.alloc o).heap.size = u.heap.size + 1 := fun u o => by simp
  unfold laidW
  refine ⟨?_, ⟨_, 77, ?_, rfl⟩, ?_, ?_, fun k hk => ?_⟩
  · rw [key, if_neg (by rw [s1, s1, s1]; omega), key, if_neg (by rw [s1, s1]; omega), key, if_neg (by rw [s1]; omega), key, if_pos rfl]
  · rw [key, if_neg (by rw [s1, s1, s1]; omega), key, if_neg (by rw [s1, s1]; omega), key, if_pos (by rw [s1])]
  · rw [key, if_neg (by rw [s1, s1, s1]; omega), key, if_pos (by rw [s1, s1])]
  · rw [key, if_pos (by rw [s1, s1, s1])]
  · rw [key, if_neg (by rw [s1, s1, s1]; omega), key, if_neg (by rw [s1, s1]; omega), key, if_neg (by rw [s1]; omega), key, if_neg (by omega)]

theorem laidW_raw (w : World) (pb xb xn xc : Nat) (m : Int) (BUF : Array Value) (ea : Addr) (hB : BUF.size = 4096) (hw : 12 ≤ w.heap.size) :
    Raw (laidW w pb xb xn xc m BUF) (cfgOf w xb xn xc ea) (BUF.setIfInBounds 0 (.int .u8 128)).toList .nilIface (-1) 0 0 0 0 32 0 0 := by
  obtain ⟨-, ⟨C, t, h1, hC⟩, h2, h3, -⟩ := laidW_heap w pb xb xn xc m BUF
  have S : ∀ i, (laidW w pb xb xn xc m BUF).cell? ⟨w.heap.size + 1, i, none⟩ = C[i]? := fun i => by unfold World.cell?; rw [h1]; rfl
  have R : ∀ i, (laidW w pb xb xn xc m BUF).cell? ⟨w.heap.size + 1 + 1, i, none⟩ = #[Value.slice (some ⟨xb, 0, none⟩) xn xc, .int .i64 0, .int .i64 (-1)][i]? := fun i => by unfold World.cell?; rw [h2]; rfl
  subst hC
  have ok : (cfgOf w xb xn xc ea).ok := by simp only [Cfg.ok, cfgOf]; omega
  refine ⟨ok, S 0, S 1, S 2, S 3, S 4, S 5, S 6, S 7, S 8, S 9, S 10, fun i => ?_, by simp only [cfgOf]; rw [h3], by simpa using hB, R 0, R 1, ⟨_, R 2⟩, fun i => ?_⟩
  · unfold World.frozen?; simp only [cfgOf]; rw [h1]; simp
  · unfold World.frozen?; simp only [cfgOf]; rw [h2]; simp

/-- A field of the token is written: the source's cells stand. -/
theorem Raw.setTail {w : World} {c : Cfg} {cur : List Value} {io : Value} {b : Int} {r e line col : Nat} {ch : Int} {chw ri : Nat} (hR : Raw w c cur io b r e line col ch chw ri) (i : Nat) (hi : 11 ≤ i) (v : Value) :
    Raw (w.setCell ⟨c.sb, i, none⟩ v) c cur io b r e line col ch chw ri := by
  have ok := hR.ok
  obtain ⟨o1, o2, o3, o4, o5, o6⟩ := hR.ok
  have S : ∀ j, j < 11 → (w.setCell ⟨c.sb, i, none⟩ v).cell? ⟨c.sb, j, none⟩ = w.cell? ⟨c.sb, j, none⟩ := fun j hj => World.cell?_setCell_other _ _ _ _ (fun e => by have := congrArg Addr.off e; simp at this; omega)
  have X : ∀ k j, k ≠ c.sb → (w.setCell ⟨c.sb, i, none⟩ v).cell? ⟨k, j, none⟩ = w.cell? ⟨k, j, none⟩ := fun k j hk => World.cell?_setCell_other _ _ _ _ (fun e => hk (congrArg Addr.block e).symm)
  exact ⟨ok, (S _ (by omega)).trans hR.c0, (S _ (by omega)).trans hR.c1, (S _ (by omega)).trans hR.c2, (S _ (by omega)).trans hR.c3, (S _ (by omega)).trans hR.c4, (S _ (by omega)).trans hR.c5, (S _ (by omega)).trans hR.c6, (S _ (by omega)).trans hR.c7, (S _ (by omega)).trans hR.c8, (S _ (by omega)).trans hR.c9, (S _ (by omega)).trans hR.c10,
    fun j => (World.frozen?_setCell _ _ _ _).trans (hR.fs j), (Below.heap_setCell _ _ _ _ o1).trans hR.buf, hR.len, (X _ _ o2).trans hR.r0, (X _ _ o2).trans hR.r1, let ⟨z, hz⟩ := hR.r2; ⟨z, (X _ _ o2).trans hz⟩, fun j => (World.frozen?_setCell _ _ _ _).trans (hR.fr j)⟩

/-- What zzAt gives: a scanner at its text's first character. -/
structure Opened (w : World) (pb : Nat) (m : Int) (l : List Nat) (E : Env) (w' : World) : Prop where
  pb : E.pb = pb
  at_ : ScanAt w' E [] l 0 []
  tail : Tail w' E.c.sb m 1 1
  s : w.heap.size ≤ E.c.sb
  b : w.heap.size ≤ E.c.bb
  r : w.heap.size ≤ E.c.rb
  B : w.heap.size ≤ E.B
  below : Below w.heap.size w w'
  c17 : w'.cell? ⟨E.c.sb, 17, none⟩ = some (.string ⟨#[]⟩)
  c18 : w'.cell? ⟨E.c.sb, 18, none⟩ = some (.bool false)
  c19 : w'.cell? ⟨E.c.sb, 19, none⟩ = some (.int .u8 0)

theorem Glob.setAt {w : World} {ea : Addr} (h : Glob w ea) {k : Nat} (hk : 12 ≤ k) (i : Nat) (v : Value) : Glob (w.setCell ⟨k, i, none⟩ v) ea := by
  have X : ∀ m j, m < 12 → (w.setCell ⟨k, i, none⟩ v).cell? ⟨m, j, none⟩ = w.cell? ⟨m, j, none⟩ := fun m j hm => World.cell?_setCell_other _ _ _ _ (fun e => by have := congrArg Addr.block e; simp at this; omega)
  exact ⟨(X _ _ (by omega)).trans h.eof, fun j hj => (X _ _ (by omega)).trans (h.tabs.1 j hj), fun j hj => ⟨(X _ _ (by omega)).trans (h.tabs.2 j hj).1, (X _ _ (by omega)).trans (h.tabs.2 j hj).2⟩⟩

/-- The buffer's cells once the text is read into it. -/
theorem bufAt_text (T : List UInt8) (C : List Value) (n : Nat) (hn : n = T.length) : BufAt ((bytesV T ++ C).set n (.int .u8 128)) 0 T := fun j hj => by
  rw [List.getElem?_set_ne (by omega), Nat.zero_add, List.getElem?_append_left (by simp [bytesV]; exact hj)]
  unfold bytesV; rw [List.getElem?_map, List.getElem?_eq_getElem hj]; rfl

set_option maxHeartbeats 1000000 in
theorem opened_of (w : World) (pb xb xn xc x : Nat) (l : List Nat) (m : Int) (BUF : Array Value) (C : List Value) (ea : Addr) (w1 w2 : World) (k : Nat)
    (hw : 12 ≤ pb) (hpb : pb < w.heap.size) (hp4 : w.cell? ⟨pb, 4, none⟩ = some (.slice none 0 0)) (hpf : ∀ i, w.frozen? ⟨pb, i, none⟩ = false) (hok : okAll l) (hn : xn = (enc x ++ encs l).length) (hmax : (xn : Int) ≤ 1900)
    (hG : Glob (laidW w pb xb xn xc m BUF) ea)
    (hF1 : Fr (cfgOf w xb xn xc ea) (laidW w pb xb xn xc m BUF) w1)
    (hF2 : Fr (cfgOf w xb xn xc ea) (((w1.drewN k).setCell ⟨w.heap.size + 1, 13, none⟩ (.int .u64 1)).setCell ⟨w.heap.size + 1, 14, none⟩ (.int .u64 1)) w2)
    (hR2 : Raw w2 (cfgOf w xb xn xc ea) ((bytesV (enc x ++ encs l) ++ C).set xn (.int .u8 128)) .nilIface 0 (enc x).length xn 0 0 x (enc x).length xn) :
    Opened w pb m (x :: l) ⟨cfgOf w xb xn xc ea, pb, w.heap.size, w.heap.size + 4⟩ w2 := by
  obtain ⟨hA, ⟨S, tt, hSb, hS⟩, hRb, hBb, hOld⟩ := laidW_heap w pb xb xn xc m BUF
  have hsz := laidW_size w pb xb xn xc m BUF
  have ok := hR2.ok
  have sz1 := hF1.size
  have sz2 := hF2.size
  simp only [World.setCell, World.drewN, Array.size_modify] at sz2
  have sz2 : w1.heap.size ≤ w2.heap.size := by simpa [World.setCell, World.drewN] using hF2.size
  have blk : ∀ j, j < w.heap.size + 4 → j ≠ w.heap.size + 1 → j ≠ w.heap.size + 1 + 1 + 1 → j ≠ w.heap.size + 1 + 1 → w2.heap[j]? = (laidW w pb xb xn xc m BUF).heap[j]? := fun j hj h1 h2 h3 => by
    rw [hF2.block j (by simp [World.setCell, World.drewN]; omega) h1 h2 h3, Below.heap_setCell _ _ _ _ h1, Below.heap_setCell _ _ _ _ h1]
    exact hF1.block j (by omega) h1 h2 h3
  have old : ∀ j, j < w.heap.size → w2.heap[j]? = w.heap[j]? := fun j hj => (blk j (by omega) (by omega) (by omega) (by omega)).trans (hOld j hj)
  have S1 : ∀ i, 11 ≤ i → w1.cell? ⟨w.heap.size + 1, i, none⟩ = S[i]? := fun i hi => by
    have := hF1.cells i hi
    simp only [cfgOf] at this
    rw [this]; unfold World.cell?; rw [hSb]; rfl
  have S2 : ∀ i v, 11 ≤ i → i ≠ 13 → i ≠ 14 → S[i]? = some v → w2.cell? ⟨w.heap.size + 1, i, none⟩ = some v := fun i v hi h13 h14 hv => by
    have := hF2.cells i hi
    simp only [cfgOf] at this
    rw [this, World.cell?_setCell_other _ _ _ _ (fun e => by have := congrArg Addr.off e; simp at this; omega), World.cell?_setCell_other _ _ _ _ (fun e => by have := congrArg Addr.off e; simp at this; omega)]
    exact (S1 i hi).trans hv
  subst hS
  have n13 : (w1.drewN k).cell? ⟨w.heap.size + 1, 13, none⟩ = some (.int .u64 0) := S1 13 (by omega)
  have n14 : (w1.drewN k).cell? ⟨w.heap.size + 1, 14, none⟩ = some (.int .u64 0) := S1 14 (by omega)
  have c13 : w2.cell? ⟨w.heap.size + 1, 13, none⟩ = some (.int .u64 1) := by
    have := hF2.cells 13 (by omega)
    simp only [cfgOf] at this
    rw [this, World.cell?_setCell_other _ _ _ _ (fun e => by have := congrArg Addr.off e; simp at this)]
    exact World.cell?_setCell_same _ _ _ n13
  have c14 : w2.cell? ⟨w.heap.size + 1, 14, none⟩ = some (.int .u64 1) := by
    have := hF2.cells 14 (by omega)
    simp only [cfgOf] at this
    rw [this]
    have n14' : ((w1.drewN k).setCell ⟨w.heap.size + 1, 13, none⟩ (.int .u64 1)).cell? ⟨w.heap.size + 1, 14, none⟩ = some (.int .u64 0) := by
      rw [World.cell?_setCell_other _ _ _ _ (fun e => by have := congrArg Addr.off e; simp at this)]; exact n14
    exact World.cell?_setCell_same _ _ _ n14'
  have okc : (cfgOf w xb xn xc ea).ok := ok
  have hx4 := enc_len_le x
  have hln : xn = (enc x).length + (encs l).length := by rw [hn]; simp
  have hT := bufAt_text (enc x ++ encs l) C xn hn
  have hb3 := nl_le (x : Int)
  have G2 : Glob w2 ea := Glob.fr okc (Glob.setAt (Glob.setAt (w := w1.drewN k) (show Glob (w1.drewN k) ea from let g := Glob.fr okc hG hF1; ⟨g.eof, g.tabs⟩) (by omega) 13 _) (by omega) 14 _) hF2
  have hE : Env.ok ⟨cfgOf w xb xn xc ea, pb, w.heap.size, w.heap.size + 4⟩ := by
    constructor <;> simp only [cfgOf] <;> first | omega | rfl
  have hSrc : Src w2 (cfgOf w xb xn xc ea) { act := true, all := enc x, r := (enc x).length, rest := l, ch := x, chw := (enc x).length, line := 0, col := 0, eof := false } := by
    refine ⟨⟨hok, fun h => Bool.noConfusion h, fun h => Bool.noConfusion h, ?_, ?_, ?_, hx4⟩, G2, (bytesV (enc x ++ encs l) ++ C).set xn (.int .u8 128), ?_, ?_, ?_, fun _ => ⟨rfl, bufAt_left hT⟩⟩
    · show (enc x).length + (encs l).length ≤ 2000; omega
    · show 0 + nl (x : Int) + (encs l).length ≤ 4000; omega
    · show 0 + (enc x).length + (encs l).length ≤ 4000; omega
    · rw [← hln]; exact hR2
    · have := bufAt_right hT; rwa [Nat.zero_add] at this
    · rw [← hln]; exact List.getElem?_set_self (by have := hR2.len; simp only [List.length_set] at this; omega)
  have hTold : Told w2 pb w.heap.size (w.heap.size + 4) 0 [] := by
    refine ⟨?_, ⟨.slice none 0 0, ?_, World.ownsRow_nil _ _ _ _⟩, fun i => ?_, by omega, by omega, by omega, by omega, by omega⟩
    · have := blk w.heap.size (by omega) (by omega) (by omega) (by omega)
      rw [hA] at this
      unfold World.cell?; rw [this]; rfl
    · rw [← hp4]; exact World.cell?_of_block (w := w) (old pb hpb)
    · rw [← hpf i]; unfold World.frozen?; rw [old pb hpb]
  have hTail : Tail w2 (w.heap.size + 1) m 1 1 :=
    ⟨S2 11 _ (by omega) (by omega) (by omega) rfl, ⟨false, S2 12 _ (by omega) (by omega) (by omega) rfl⟩, c13, c14, ⟨0, S2 16 _ (by omega) (by omega) (by omega) rfl⟩, ⟨⟨#[]⟩, S2 17 _ (by omega) (by omega) (by omega) rfl⟩, ⟨false, S2 18 _ (by omega) (by omega) (by omega) rfl⟩, ⟨0, S2 19 _ (by omega) (by omega) (by omega) rfl⟩⟩
  refine ⟨rfl, ⟨_, ⟨hE, hSrc, hTold⟩, ⟨rfl, rfl, rfl, rfl, rfl, fun _ => rfl⟩⟩, hTail, ?_, ?_, ?_, ?_, ⟨?_, ?_, ?_, ?_, old⟩, S2 17 _ (by omega) (by omega) (by omega) rfl, S2 18 _ (by omega) (by omega) (by omega) rfl, S2 19 _ (by omega) (by omega) (by omega) rfl⟩
  all_goals try (simp only [cfgOf]; omega)
  · have := hF2.os.trans hF1.os; exact this
  · have := hF2.tape.trans hF1.tape; exact this
  · have := hF2.output.trans hF1.output; exact this
  · omega

set_option maxRecDepth 100000 in
set_option maxHeartbeats 4000000 in
theorem zzAt_calls (xb xn xc pb x : Nat) (l : List Nat) (ea : Addr) (m : Int) (w : World) (hG : Glob w ea) (hok : okAll (x :: l)) (hn : xn = (encs (x :: l)).length) (hmax : (xn : Int) ≤ 1900) (hxc : (xn : Int) ≤ xc)
    (hsrc : ∀ j v, (bytesV (encs (x :: l)))[j]? = some v → w.cell? ⟨xb, j, none⟩ = some v) (hpb : pb < w.heap.size) (hp12 : 12 ≤ pb) (hp4 : w.cell? ⟨pb, 4, none⟩ = some (.slice none 0 0)) (hpf : ∀ i, w.frozen? ⟨pb, i, none⟩ = false) :
    Calls Tryd.prog 54 #[.slice (some ⟨xb, 0, none⟩) xn xc, .int .u64 m, .pointer (some ⟨pb, 0, none⟩)] w fun e w' => ∃ E, e = .returned (.pointer (some ⟨E.c.sb, 0, none⟩)) ∧ Opened w pb m (x :: l) E w' := by
  obtain ⟨BUF, hmk, hB0, hBs⟩ : ∃ BUF : Array Value, (∀ w, Sem.run Tryd.prog (Instr.makeSlice 41 (.int .i64 4096) (.int .i64 4096)) w = .ok (.slice (some ⟨w.heap.size, 0, none⟩) 4096 4096) (w.alloc (.cells BUF 5))) ∧ BUF[0]? = some (.int .u8 0) ∧ Hid (BUF.size = 4096) :=
    ⟨buf0, make_buf, buf0_head, size_madeCells _ _⟩
  have hxb : xb < w.heap.size := by
    have hp := enc_len_pos x
    have h0 : 0 < (bytesV (encs (x :: l))).length := by simp only [bytesV, List.length_map, encs, List.length_append]; omega
    exact cell_lt (a := ⟨xb, 0, none⟩) (hsrc 0 _ (List.getElem?_eq_getElem h0))
  have hw12 : 12 ≤ w.heap.size := by omega
  have RW := Lib.hid (laidW_raw w pb xb xn xc m BUF ea hBs.out hw12)
  have LH := Lib.hid (laidW_heap w pb xb xn xc m BUF)
  have HG : Hid (Glob (laidW w pb xb xn xc m BUF) ea) := by
    have C : ∀ k o v, w.cell? ⟨k, o, none⟩ = some v → (laidW w pb xb xn xc m BUF).cell? ⟨k, o, none⟩ = some v := fun k o v hv => by
      rw [← hv]; exact World.cell?_of_block (w := w) (LH.out.2.2.2.2 k (cell_lt hv))
    exact ⟨C _ _ _ hG.eof, fun i hi => C _ _ _ (hG.tabs.1 i hi), fun i hi => ⟨C _ _ _ (hG.tabs.2 i hi).1, C _ _ _ (hG.tabs.2 i hi).2⟩⟩
  have HS : Hid (∀ j v, (bytesV (encs (x :: l)))[j]? = some v → (laidW w pb xb xn xc m BUF).cell? ⟨xb, j, none⟩ = some v) := fun j v hv => by
    rw [← hsrc j v hv]; exact World.cell?_of_block (w := w) (LH.out.2.2.2.2 xb hxb)
  have HSENT : Hid ((BUF.setIfInBounds 0 (.int .u8 128)).toList[0]? = some (.int .u8 128)) := by
    show _ = _
    have : 0 < BUF.size := by rw [hBs.out]; omega
    simp [this]
  obtain ⟨okx, okl⟩ := okAll_cons.1 hok
  have HN : Hid (xn = (enc x ++ encs l).length) := hn
  have hnil := fun (w : World) => Lib.run_eql_slice_nil (P := Tryd.prog) w 41 5 none 0 0 0 0 u41
  have HP4 := Lib.hid hp4
  have HPF := Lib.hid hpf
  have hx4 := enc_len_le x
  clear hG hsrc hp4 hpf hn hok
  go_enter Tryd.func54, Tryd.ntmps54
  go_wp2_with (first | (go_at_call 75; go_in) | (go_at_call 74; go_in) | (go_at_call 109; go_in) | (go_at_call 110; go_in))
  go_end0
  go_wp2_with fail
  go_end0
  go_wp2_with fail
  refine (next_first (cfgOf w xb xn xc ea) (BUF.setIfInBounds 0 (.int .u8 128)).toList x (encs l) (laidW w pb xb xn xc m BUF) okx RW.out HSENT.out HG.out HN.out (by simp only [cfgOf]; omega) hxc (by simp only [cfgOf]; omega) (by simp only [cfgOf]; omega) (by simp only [cfgOf]; omega) HS.out).mono ?_
  rintro e w1 ⟨rfl, hR, hF⟩
  obtain ⟨hA, ⟨C, tt, hSb, hC⟩, -, -, hOld⟩ := LH.out
  have SC : ∀ i, 11 ≤ i → w1.cell? ⟨w.heap.size + 1, i, none⟩ = C[i]? := fun i hi => by
    have := hF.cells i hi
    simp only [cfgOf] at this
    rw [this]; unfold World.cell?; rw [hSb]; rfl
  subst hC
  have d13 : w1.cell? ⟨w.heap.size + 1, 13, none⟩ = some (.int .u64 0) := SC 13 (by omega)
  have d14 : w1.cell? ⟨w.heap.size + 1, 14, none⟩ = some (.int .u64 0) := SC 14 (by omega)
  have d7 : w1.cell? ⟨w.heap.size + 1, 7, none⟩ = some (.int .u64 ((0 : Nat) : Int)) := hR.c7
  have d8 : w1.cell? ⟨w.heap.size + 1, 8, none⟩ = some (.int .u64 ((0 : Nat) : Int)) := hR.c8
  have df : ∀ i, w1.frozen? ⟨w.heap.size + 1, i, none⟩ = false := hR.fs
  have HSC := Lib.hid SC
  have HOLD := Lib.hid hOld
  have HA := Lib.hid hA
  have HR := Lib.hid hR
  have HF := Lib.hid hF
  clear SC hOld hA hSb hR hF hmk hnil hB0
  go_wp2_with (go_at_call 77; refine (pos_calls (w.heap.size + 1) 0 0 _ d7 d8 (by decide) (by decide)).mono ?_; rintro e w' ⟨rfl, k, rfl⟩)
  refine (start_calls (cfgOf w xb xn xc ea) _ _ _ _ _ _ _ _ _ _ _ (((HR.out.drewN k).setTail 13 (by omega) _).setTail 14 (by omega) _) (by omega) rfl).mono ?_
  rintro e w2 ⟨rfl, hR2, hF2⟩
  go_wp2
  go_ret
  exact ⟨⟨cfgOf w xb xn xc ea, pb, w.heap.size, w.heap.size + 4⟩, rfl, opened_of w pb xb xn xc x l m BUF _ ea w1 w2 k hp12 hpb HP4.out HPF.out okl HN.out hmax HG.out HF.out hF2 hR2⟩

end Go.Proofs.YtnehkpoggkfikaaDoor
