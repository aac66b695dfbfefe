/-
  The door of String, and the thin package's reader of it. Conditions: each law's own. (Printed by gendoor.py.)
-/
import Derived.Test.YtnehkpoggkfikaaDoorDoorB
namespace Go.Proofs.YtnehkpoggkfikaaDoor
open Go.RowKit
set_option linter.unusedVariables false

/-- What the reader of the token must show. -/
def ReadsString (R : TokR) (x : Nat) (l : List Nat) (m : Int) : Prop := ∀ (E : Env) (w : World), OpenTo w E ([]) (x :: l) m → Calls Tryd.prog 60 #[.pointer (some ⟨E.c.sb, 0, none⟩)] w (TokEnd R E w)
set_option maxRecDepth 100000 in
set_option maxHeartbeats 1000000 in
theorem zzString_calls {R : TokR} (xb xn xc : Nat) (x : Nat) (l : List Nat) (ea : Addr) (htok : ReadsString R x l 0) (w : World) (hG : Glob w ea) (hok : okAll (x :: l)) (hn : xn = (encs (x :: l)).length) (hmax : (xn : Int) ≤ 1900) (hxc : (xn : Int) ≤ xc) (hw : 12 ≤ w.heap.size)
    (hsrc : ∀ j v, (bytesV (encs (x :: l)))[j]? = some v → w.cell? ⟨xb, j, none⟩ = some v) :
    Calls Tryd.prog 39 #[.slice (some ⟨xb, 0, none⟩) xn xc] w (DoorR R w) := by
  have HD := Lib.hid (doorAt hG hsrc)
  have HOK := Lib.hid hok
  have HN := Lib.hid hn
  have HT := Lib.hid htok
  clear hG hsrc hok hn htok
  go_enter Tryd.func39, Tryd.ntmps39
  go_wp2_with (go_at_call 54; refine (zzAt_calls xb xn xc (w.heap.size + 1) x (l) ea 0 (doorW w) HD.out.glob HOK.out HN.out hmax hxc HD.out.src (by rw [HD.out.size]; omega) (by omega) HD.out.p4 HD.out.pf).mono ?_; rintro e w2 ⟨E, rfl, hO⟩; have hO := Lib.hid hO)
  go_at_call 60
  refine (HT.out E _ (hO.out.to)).mono ?_
  rintro e w3 ⟨rfl, hT1, lit, kind, bad, ch, ns, hR, hk, hch, hE⟩
  have hT := (TK.refl E w2).trans hT1
  have hK := Lib.hid (opened_keeps hO.out hT HD.out.size)
  have hns : Hid (ns.length ≤ 100000) := hE.le
  have hE := Lib.hid hE
  have hR := Lib.hid hR
  have hch := Lib.hid hch
  have hC := Lib.hid (part_cells HD.out hO.out hT)
  have hB := Lib.hid hO.out.pb
  have hB2 := Lib.hid hO.out.B
  clear hT hT1 hO
  go_wp2_with (go_at_call 56; refine (zzOf_end E (w.heap.size + 1) hB.out lit kind bad ch ns w3 hE.out hk _ _ _ _ hC.out.1 hC.out.2.1 hC.out.2.2.1 hC.out.2.2.2).mono ?_; rintro e w4 ⟨ta, tc, rfl, hrow, hK4⟩; have hEnd := doorEnd HD.out hK.out hK4; obtain ⟨r0, r1, r2, r3, r4, rf, hBel⟩ := hEnd; have hrow := Lib.hid hrow; have hBel := Lib.hid hBel; clear hK4)
  refine bodyPost_ret (v := .agg #[.string lit, .int .i64 kind, .bool bad, .int .i32 ch, .slice ta ns.length tc]) (by simp [results, Tryd.results39, go_sem, r0, r1, r2, r3, r4]) rfl ?_
  have hBB : w.heap.size < E.B := by have := hB2.out; have := HD.out.size; omega
  exact ⟨lit, kind, bad, ch, ns, hR.out, hch.out, hns.out, ta, tc, E.B, rfl, row_set (row_set (row_set (row_set (row_set hrow.out hBB) hBB) hBB) hBB) hBB, ((((hBel.out.setCell (Nat.le_refl _) _).setCell (Nat.le_refl _) _).setCell (Nat.le_refl _) _).setCell (Nat.le_refl _) _).setCell (Nat.le_refl _) _⟩

set_option maxRecDepth 100000 in
set_option maxHeartbeats 1000000 in
theorem implString_calls {R : TokR} (src : ByteArray) (x : Nat) (l : List Nat) (ea : Addr) (htok : ReadsString R x l 0) (w : World) (hG : Glob w ea) (hok : okAll (x :: l)) (hs : src.data.toList = encs (x :: l)) (hmax : (src.size : Int) ≤ 1900) (hw : 12 ≤ w.heap.size) :
    Calls Tryd.prog 25 #[.string src] w (ImplR R w) := by
  have hcv := fun w s => run_bytes_of_string (P := Tryd.prog) w 9 41 5 s Tryd.underlying9 Tryd.underlying41 Tryd.underlying5
  have HG := Lib.hid hG
  have HOK := Lib.hid hok
  have HS := Lib.hid hs
  have HT := Lib.hid htok
  have hn : Hid (src.size = (encs (x :: l)).length) := by have := congrArg List.length hs; rw [Array.length_toList] at this; exact this
  clear hG hok hs htok
  go_enter Tryd.func25, Tryd.ntmps25
  go_wp2_with fail
  have hcap := grownCap_ge (w.alloc ipart0) src.size 0 5
  have hX : Hid (∃ cap, cap = grownCap (w.alloc ipart0) src.size 0 5) := ⟨_, rfl⟩
  obtain ⟨cap, hce⟩ := hX.out
  have HD := Lib.hid (srcAt cap HG.out HS.out)
  rw [← hce] at hcap
  go_at_call 39
  change Calls Tryd.prog 39 #[.slice (some ⟨w.heap.size + 1, 0, none⟩) src.size (grownCap (w.alloc ipart0) src.size 0 5)] (srcW w src (grownCap (w.alloc ipart0) src.size 0 5)) _
  rw [← hce]
  refine (zzString_calls (w.heap.size + 1) src.size cap x l ea HT.out (srcW w src cap) HD.out.glob HOK.out hn.out hmax (Int.ofNat_le.2 hcap) (by rw [HD.out.size]; omega) HD.out.text).mono ?_
  rintro e w2 ⟨lit, kind, bad, ch, ns, hR, hb, hns, ta, tc, B, rfl, hrow, hBel⟩
  have hR := Lib.hid hR
  have hrow := Lib.hid hrow
  have hBel := Lib.hid hBel
  have hb := Lib.hid hb
  go_wp2_with (go_at_call 35; refine (partOf_row lit kind ch bad ns _ B w2 hb.out.1 hb.out.2 hns hrow.out).mono ?_; rintro e w3 ⟨v, l', rfl, htx, hrow3, hBel3⟩; obtain ⟨ta3, tc3, rfl⟩ := ownsRow_slice hrow3; obtain ⟨r0, r1, r2, r3, r4, rf, hB4⟩ := implEnd HD.out hBel.out hBel3; have hrow3 := Lib.hid hrow3; have htx := Lib.hid htx; have hB4 := Lib.hid hB4; have hz : Hid (w.heap.size < w2.heap.size) := (by have h1 := hBel.out.size; have h2 := HD.out.size; exact (by omega : w.heap.size < w2.heap.size)); clear hBel3)
  refine bodyPost_ret (v := .agg #[.string lit, .int .i64 kind, .bool bad, .int .i64 ch, .slice ta3 l'.length tc3]) (by simp [results, Tryd.results25, go_sem, r0, r1, r2, r3, r4]) rfl ?_
  have hz := hz.out
  exact ⟨lit, kind, bad, ch, ns, hR.out, _, l', rfl, htx.out, ownsRow_base (row_set (row_set (row_set (row_set (row_set hrow3.out hz) hz) hz) hz) hz) (Nat.le_of_lt hz), ((((hB4.out.setCell (Nat.le_refl _) _).setCell (Nat.le_refl _) _).setCell (Nat.le_refl _) _).setCell (Nat.le_refl _) _).setCell (Nat.le_refl _) _⟩
end Go.Proofs.YtnehkpoggkfikaaDoor
