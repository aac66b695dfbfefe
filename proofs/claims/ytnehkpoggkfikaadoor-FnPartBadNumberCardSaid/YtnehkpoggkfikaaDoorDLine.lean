/-
  The door of Line, and the thin package's reader of it. Conditions: each law's own. (Printed by gendoor.py.)
-/
import Derived.Test.YtnehkpoggkfikaaDoorDoorB
namespace Go.Proofs.YtnehkpoggkfikaaDoor
open Go.RowKit
set_option linter.unusedVariables false

/-- What the reader of the token must show. -/
def ReadsLine (R : TokR) (x y : Nat) (l : List Nat) (m : Int) : Prop := ∀ (E : Env) (w : World), OpenTo w E ([] ++ enc x ++ enc y) (l) m → Calls Tryd.prog 58 #[.pointer (some ⟨E.c.sb, 0, none⟩)] w (TokEnd R E w)
set_option maxRecDepth 100000 in
set_option maxHeartbeats 1000000 in
theorem zzLine_calls {R : TokR} (xb xn xc : Nat) (x y : Nat) (l : List Nat) (m : Int) (hm0 : 0 ≤ m) (hm1 : m ≤ 1) (ea : Addr) (htok : ReadsLine R x y l m) (w : World) (hG : Glob w ea) (hok : okAll (x :: y :: l)) (hn : xn = (encs (x :: y :: l)).length) (hmax : (xn : Int) ≤ 1900) (hxc : (xn : Int) ≤ xc) (hw : 12 ≤ w.heap.size)
    (hsrc : ∀ j v, (bytesV (encs (x :: y :: l)))[j]? = some v → w.cell? ⟨xb, j, none⟩ = some v) :
    Calls Tryd.prog 37 #[.slice (some ⟨xb, 0, none⟩) xn xc, .int .u64 m] w (DoorR R w) := by
  have HD := Lib.hid (doorAt hG hsrc)
  have HOK := Lib.hid hok
  have HN := Lib.hid hn
  have HT := Lib.hid htok
  clear hG hsrc hok hn htok
  go_enter Tryd.func37, Tryd.ntmps37
  go_wp2_with (go_at_call 54; refine (zzAt_calls xb xn xc (w.heap.size + 1) x (y :: l) ea m (doorW w) HD.out.glob HOK.out HN.out hmax hxc HD.out.src (by rw [HD.out.size]; omega) (by omega) HD.out.p4 HD.out.pf).mono ?_; rintro e w2 ⟨E, rfl, hO⟩; have hO := Lib.hid hO)
  go_at_call 57
  refine (open_next E ([]) x (y :: l) m _ (hO.out.to)).mono ?_
  rintro e v0 ⟨rfl, hA0, hK0⟩
  have hA0 := Lib.hid hA0
  have hKK0 := Lib.hid ((TK.refl E w2).trans hK0)
  clear hK0
  go_wp2_with fail
  go_at_call 57
  refine (open_next E ([] ++ enc x) y (l) m _ (hA0.out)).mono ?_
  rintro e v1 ⟨rfl, hA1, hK1⟩
  have hA1 := Lib.hid hA1
  have hKK1 := Lib.hid (hKK0.out.trans hK1)
  clear hK1
  go_wp2_with fail
  go_at_call 58
  refine (HT.out E _ (hA1.out)).mono ?_
  rintro e w3 ⟨rfl, hT1, lit, kind, bad, ch, ns, hR, hk, hch, hE⟩
  have hT := hKK1.out.trans hT1
  have hK := Lib.hid (opened_keeps hO.out hT HD.out.size)
  have hns : Hid (ns.length ≤ 100000) := hE.le
  have hE := Lib.hid hE
  have hR := Lib.hid hR
  have hch := Lib.hid hch
  have hC := Lib.hid (part_cells HD.out hO.out hT)
  have hB := Lib.hid hO.out.pb
  have hB2 := Lib.hid hO.out.B
  clear hT hT1 hO
  go_wp2_with (go_at_call 56; refine (zzOf_end E (w.heap.size + 1) hB.out lit kind bad ch ns w3 hE.out hk _ _ _ _ hC.out.1 hC.out.2.1 hC.out.2.2.1 hC.out.2.2.2).mono ?_; rintro e w4 ⟨ta, tc, rfl, hrow, hK4⟩; have hEnd := doorEnd HD.out hK.out hK4; obtain ⟨r0, r1, r2, r3, r4, rf, hBel⟩ := hEnd; have hrow := Lib.hid hrow; have hBel := Lib.hid hBel; clear hK4)
  refine bodyPost_ret (v := .agg #[.string lit, .int .i64 kind, .bool bad, .int .i32 ch, .slice ta ns.length tc]) (by simp [results, Tryd.results37, go_sem, r0, r1, r2, r3, r4]) rfl ?_
  have hBB : w.heap.size < E.B := by have := hB2.out; have := HD.out.size; omega
  exact ⟨lit, kind, bad, ch, ns, hR.out, hch.out, hns.out, ta, tc, E.B, rfl, row_set (row_set (row_set (row_set (row_set hrow.out hBB) hBB) hBB) hBB) hBB, ((((hBel.out.setCell (Nat.le_refl _) _).setCell (Nat.le_refl _) _).setCell (Nat.le_refl _) _).setCell (Nat.le_refl _) _).setCell (Nat.le_refl _) _⟩

set_option maxRecDepth 100000 in
set_option maxHeartbeats 1000000 in
theorem implLine_calls {R : TokR} (src : ByteArray) (x y : Nat) (l : List Nat) (m : Int) (hm0 : 0 ≤ m) (hm1 : m ≤ 1) (ea : Addr) (htok : ReadsLine R x y l m) (w : World) (hG : Glob w ea) (hok : okAll (x :: y :: l)) (hs : src.data.toList = encs (x :: y :: l)) (hmax : (src.size : Int) ≤ 1900) (hw : 12 ≤ w.heap.size) :
    Calls Tryd.prog 22 #[.string src, .int .i64 m] w (ImplR R w) := by
  have hcv := fun w s => run_bytes_of_string (P := Tryd.prog) w 9 41 5 s Tryd.underlying9 Tryd.underlying41 Tryd.underlying5
  have HG := Lib.hid hG
  have HOK := Lib.hid hok
  have HS := Lib.hid hs
  have HT := Lib.hid htok
  have hn : Hid (src.size = (encs (x :: y :: l)).length) := by have := congrArg List.length hs; rw [Array.length_toList] at this; exact this
  clear hG hok hs htok
  go_enter Tryd.func22, Tryd.ntmps22
  go_wp2_with fail
  have hcap := grownCap_ge (w.alloc ipart0) src.size 0 5
  have hX : Hid (∃ cap, cap = grownCap (w.alloc ipart0) src.size 0 5) := ⟨_, rfl⟩
  obtain ⟨cap, hce⟩ := hX.out
  have HD := Lib.hid (srcAt cap HG.out HS.out)
  rw [← hce] at hcap
  go_at_call 37
  change Calls Tryd.prog 37 #[.slice (some ⟨w.heap.size + 1, 0, none⟩) src.size (grownCap (w.alloc ipart0) src.size 0 5), .int .u64 m] (srcW w src (grownCap (w.alloc ipart0) src.size 0 5)) _
  rw [← hce]
  refine (zzLine_calls (w.heap.size + 1) src.size cap x y l m hm0 hm1 ea HT.out (srcW w src cap) HD.out.glob HOK.out hn.out hmax (Int.ofNat_le.2 hcap) (by rw [HD.out.size]; omega) HD.out.text).mono ?_
  rintro e w2 ⟨lit, kind, bad, ch, ns, hR, hb, hns, ta, tc, B, rfl, hrow, hBel⟩
  have hR := Lib.hid hR
  have hrow := Lib.hid hrow
  have hBel := Lib.hid hBel
  have hb := Lib.hid hb
  go_wp2_with (go_at_call 35; refine (partOf_row lit kind ch bad ns _ B w2 hb.out.1 hb.out.2 hns hrow.out).mono ?_; rintro e w3 ⟨v, l', rfl, htx, hrow3, hBel3⟩; obtain ⟨ta3, tc3, rfl⟩ := ownsRow_slice hrow3; obtain ⟨r0, r1, r2, r3, r4, rf, hB4⟩ := implEnd HD.out hBel.out hBel3; have hrow3 := Lib.hid hrow3; have htx := Lib.hid htx; have hB4 := Lib.hid hB4; have hz : Hid (w.heap.size < w2.heap.size) := (by have h1 := hBel.out.size; have h2 := HD.out.size; exact (by omega : w.heap.size < w2.heap.size)); clear hBel3)
  refine bodyPost_ret (v := .agg #[.string lit, .int .i64 kind, .bool bad, .int .i64 ch, .slice ta3 l'.length tc3]) (by simp [results, Tryd.results22, go_sem, r0, r1, r2, r3, r4]) rfl ?_
  have hz := hz.out
  exact ⟨lit, kind, bad, ch, ns, hR.out, _, l', rfl, htx.out, ownsRow_base (row_set (row_set (row_set (row_set (row_set hrow3.out hz) hz) hz) hz) hz) (Nat.le_of_lt hz), ((((hB4.out.setCell (Nat.le_refl _) _).setCell (Nat.le_refl _) _).setCell (Nat.le_refl _) _).setCell (Nat.le_refl _) _).setCell (Nat.le_refl _) _⟩
end Go.Proofs.YtnehkpoggkfikaaDoor
