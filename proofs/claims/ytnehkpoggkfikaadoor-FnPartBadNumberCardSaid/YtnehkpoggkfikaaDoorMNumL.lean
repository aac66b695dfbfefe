/-
  The door of Number, and the thin package's reader of it. Conditions: each law's own. (Printed by gendoor.py.)
  The door of Point, and the thin package's reader of it. Conditions: each law's own. (Printed by gendoor.py.)
  The statements on numbers, walked: every number literal. Conditions: each law's own.
  The statements on number literals, walked. Conditions: each law's own.
-/
import Derived.Test.YtnehkpoggkfikaaDoorMNumW
import Derived.Test.YtnehkpoggkfikaaDoorMSpec
import Derived.Test.YtnehkpoggkfikaaDoorLLine
import Derived.Test.YtnehkpoggkfikaaDoorMNumA
namespace Go.Proofs.YtnehkpoggkfikaaDoor
open Go.RowKit
set_option linter.unusedVariables false

/-- What the reader of the token must show. -/
def ReadsNumber (R : TokR) (x : Nat) (l : List Nat) (m : Int) : Prop := ∀ (E : Env) (w : World), OpenToN w E ([]) (x :: l) m → Calls Tryd.prog 64 #[.pointer (some ⟨E.c.sb, 0, none⟩), .bool false] w (TokEnd R E w)
set_option maxRecDepth 100000 in
set_option maxHeartbeats 1000000 in
theorem zzNumber_calls {R : TokR} (xb xn xc : Nat) (x : Nat) (l : List Nat) (ea : Addr) (htok : ReadsNumber R x l 0) (w : World) (hG : Glob w ea) (hok : okAll (x :: l)) (hn : xn = (encs (x :: l)).length) (hmax : (xn : Int) ≤ 1900) (hxc : (xn : Int) ≤ xc) (hw : 12 ≤ w.heap.size)
    (hsrc : ∀ j v, (bytesV (encs (x :: l)))[j]? = some v → w.cell? ⟨xb, j, none⟩ = some v) :
    Calls Tryd.prog 45 #[.slice (some ⟨xb, 0, none⟩) xn xc] w (DoorR R w) := by
  have HD := Lib.hid (doorAt hG hsrc)
  have HOK := Lib.hid hok
  have HN := Lib.hid hn
  have HT := Lib.hid htok
  clear hG hsrc hok hn htok
  go_enter Tryd.func45, Tryd.ntmps45
  go_wp2_with (go_at_call 54; refine (zzAt_calls xb xn xc (w.heap.size + 1) x (l) ea 0 (doorW w) HD.out.glob HOK.out HN.out hmax hxc HD.out.src (by rw [HD.out.size]; omega) (by omega) HD.out.p4 HD.out.pf).mono ?_; rintro e w2 ⟨E, rfl, hO⟩; have hO := Lib.hid hO)
  go_at_call 64
  refine (HT.out E _ (opened_toN HD.out hO.out)).mono ?_
  rintro e w3 ⟨rfl, hT1, lit, kind, bad, ch, ns, hR, hk, hch, hE⟩
  have hT := (TK.refl E w2).trans hT1
  have hK := Lib.hid (opened_keeps hO.out hT HD.out.size)
  have hns : Hid (ns.length ≤ 100000) := hE.le
  have hE := Lib.hid hE
  have hR := Lib.hid hR
  have hch := Lib.hid hch
  have hC := Lib.hid (part_cells HD.out hO.out hT)
  have hB := Lib.hid hO.out.pb
  have hB2 := Lib.hid hO.out.B
  clear hT hT1 hO
  go_wp2_with (go_at_call 56; refine (zzOf_end E (w.heap.size + 1) hB.out lit kind bad ch ns w3 hE.out hk _ _ _ _ hC.out.1 hC.out.2.1 hC.out.2.2.1 hC.out.2.2.2).mono ?_; rintro e w4 ⟨ta, tc, rfl, hrow, hK4⟩; have hEnd := doorEnd HD.out hK.out hK4; obtain ⟨r0, r1, r2, r3, r4, rf, hBel⟩ := hEnd; have hrow := Lib.hid hrow; have hBel := Lib.hid hBel; clear hK4)
  refine bodyPost_ret (v := .agg #[.string lit, .int .i64 kind, .bool bad, .int .i32 ch, .slice ta ns.length tc]) (by simp [results, Tryd.results45, go_sem, r0, r1, r2, r3, r4]) rfl ?_
  have hBB : w.heap.size < E.B := by have := hB2.out; have := HD.out.size; omega
  exact ⟨lit, kind, bad, ch, ns, hR.out, hch.out, hns.out, ta, tc, E.B, rfl, row_set (row_set (row_set (row_set (row_set hrow.out hBB) hBB) hBB) hBB) hBB, ((((hBel.out.setCell (Nat.le_refl _) _).setCell (Nat.le_refl _) _).setCell (Nat.le_refl _) _).setCell (Nat.le_refl _) _).setCell (Nat.le_refl _) _⟩

set_option maxRecDepth 100000 in
set_option maxHeartbeats 1000000 in
theorem implNumber_calls {R : TokR} (src : ByteArray) (x : Nat) (l : List Nat) (ea : Addr) (htok : ReadsNumber R x l 0) (w : World) (hG : Glob w ea) (hok : okAll (x :: l)) (hs : src.data.toList = encs (x :: l)) (hmax : (src.size : Int) ≤ 1900) (hw : 12 ≤ w.heap.size) :
    Calls Tryd.prog 29 #[.string src] w (ImplR R w) := by
  have hcv := fun w s => run_bytes_of_string (P := Tryd.prog) w 9 41 5 s Tryd.underlying9 Tryd.underlying41 Tryd.underlying5
  have HG := Lib.hid hG
  have HOK := Lib.hid hok
  have HS := Lib.hid hs
  have HT := Lib.hid htok
  have hn : Hid (src.size = (encs (x :: l)).length) := by have := congrArg List.length hs; rw [Array.length_toList] at this; exact this
  clear hG hok hs htok
  go_enter Tryd.func29, Tryd.ntmps29
  go_wp2_with fail
  have hcap := grownCap_ge (w.alloc ipart0) src.size 0 5
  have hX : Hid (∃ cap, cap = grownCap (w.alloc ipart0) src.size 0 5) := ⟨_, rfl⟩
  obtain ⟨cap, hce⟩ := hX.out
  have HD := Lib.hid (srcAt cap HG.out HS.out)
  rw [← hce] at hcap
  go_at_call 45
  change Calls Tryd.prog 45 #[.slice (some ⟨w.heap.size + 1, 0, none⟩) src.size (grownCap (w.alloc ipart0) src.size 0 5)] (srcW w src (grownCap (w.alloc ipart0) src.size 0 5)) _
  rw [← hce]
  refine (zzNumber_calls (w.heap.size + 1) src.size cap x l ea HT.out (srcW w src cap) HD.out.glob HOK.out hn.out hmax (Int.ofNat_le.2 hcap) (by rw [HD.out.size]; omega) HD.out.text).mono ?_
  rintro e w2 ⟨lit, kind, bad, ch, ns, hR, hb, hns, ta, tc, B, rfl, hrow, hBel⟩
  have hR := Lib.hid hR
  have hrow := Lib.hid hrow
  have hBel := Lib.hid hBel
  have hb := Lib.hid hb
  go_wp2_with (go_at_call 35; refine (partOf_row lit kind ch bad ns _ B w2 hb.out.1 hb.out.2 hns hrow.out).mono ?_; rintro e w3 ⟨v, l', rfl, htx, hrow3, hBel3⟩; obtain ⟨ta3, tc3, rfl⟩ := ownsRow_slice hrow3; obtain ⟨r0, r1, r2, r3, r4, rf, hB4⟩ := implEnd HD.out hBel.out hBel3; have hrow3 := Lib.hid hrow3; have htx := Lib.hid htx; have hB4 := Lib.hid hB4; have hz : Hid (w.heap.size < w2.heap.size) := (by have h1 := hBel.out.size; have h2 := HD.out.size; exact (by omega : w.heap.size < w2.heap.size)); clear hBel3)
  refine bodyPost_ret (v := .agg #[.string lit, .int .i64 kind, .bool bad, .int .i64 ch, .slice ta3 l'.length tc3]) (by simp [results, Tryd.results29, go_sem, r0, r1, r2, r3, r4]) rfl ?_
  have hz := hz.out
  exact ⟨lit, kind, bad, ch, ns, hR.out, _, l', rfl, htx.out, ownsRow_base (row_set (row_set (row_set (row_set (row_set hrow3.out hz) hz) hz) hz) hz) (Nat.le_of_lt hz), ((((hB4.out.setCell (Nat.le_refl _) _).setCell (Nat.le_refl _) _).setCell (Nat.le_refl _) _).setCell (Nat.le_refl _) _).setCell (Nat.le_refl _) _⟩
end Go.Proofs.YtnehkpoggkfikaaDoor

namespace Go.Proofs.YtnehkpoggkfikaaDoor
open Go.RowKit
set_option linter.unusedVariables false

/-- What the reader of the token must show. -/
def ReadsPoint (R : TokR) (x : Nat) (l : List Nat) (m : Int) : Prop := ∀ (E : Env) (w : World), OpenToN w E ([] ++ enc x) (l) m → Calls Tryd.prog 64 #[.pointer (some ⟨E.c.sb, 0, none⟩), .bool true] w (TokEnd R E w)
set_option maxRecDepth 100000 in
set_option maxHeartbeats 1000000 in
theorem zzPoint_calls {R : TokR} (xb xn xc : Nat) (x : Nat) (l : List Nat) (ea : Addr) (htok : ReadsPoint R x l 0) (w : World) (hG : Glob w ea) (hok : okAll (x :: l)) (hn : xn = (encs (x :: l)).length) (hmax : (xn : Int) ≤ 1900) (hxc : (xn : Int) ≤ xc) (hw : 12 ≤ w.heap.size)
    (hsrc : ∀ j v, (bytesV (encs (x :: l)))[j]? = some v → w.cell? ⟨xb, j, none⟩ = some v) :
    Calls Tryd.prog 49 #[.slice (some ⟨xb, 0, none⟩) xn xc] w (DoorR R w) := by
  have HD := Lib.hid (doorAt hG hsrc)
  have HOK := Lib.hid hok
  have HN := Lib.hid hn
  have HT := Lib.hid htok
  clear hG hsrc hok hn htok
  go_enter Tryd.func49, Tryd.ntmps49
  go_wp2_with (go_at_call 54; refine (zzAt_calls xb xn xc (w.heap.size + 1) x (l) ea 0 (doorW w) HD.out.glob HOK.out HN.out hmax hxc HD.out.src (by rw [HD.out.size]; omega) (by omega) HD.out.p4 HD.out.pf).mono ?_; rintro e w2 ⟨E, rfl, hO⟩; have hO := Lib.hid hO)
  go_at_call 57
  refine (open_nextN E ([]) x (l) 0 _ (opened_toN HD.out hO.out)).mono ?_
  rintro e v0 ⟨rfl, hA0, hK0⟩
  have hA0 := Lib.hid hA0
  have hKK0 := Lib.hid ((TK.refl E w2).trans hK0)
  clear hK0
  go_wp2_with fail
  go_at_call 64
  refine (HT.out E _ (hA0.out)).mono ?_
  rintro e w3 ⟨rfl, hT1, lit, kind, bad, ch, ns, hR, hk, hch, hE⟩
  have hT := hKK0.out.trans hT1
  have hK := Lib.hid (opened_keeps hO.out hT HD.out.size)
  have hns : Hid (ns.length ≤ 100000) := hE.le
  have hE := Lib.hid hE
  have hR := Lib.hid hR
  have hch := Lib.hid hch
  have hC := Lib.hid (part_cells HD.out hO.out hT)
  have hB := Lib.hid hO.out.pb
  have hB2 := Lib.hid hO.out.B
  clear hT hT1 hO
  go_wp2_with (go_at_call 56; refine (zzOf_end E (w.heap.size + 1) hB.out lit kind bad ch ns w3 hE.out hk _ _ _ _ hC.out.1 hC.out.2.1 hC.out.2.2.1 hC.out.2.2.2).mono ?_; rintro e w4 ⟨ta, tc, rfl, hrow, hK4⟩; have hEnd := doorEnd HD.out hK.out hK4; obtain ⟨r0, r1, r2, r3, r4, rf, hBel⟩ := hEnd; have hrow := Lib.hid hrow; have hBel := Lib.hid hBel; clear hK4)
  refine bodyPost_ret (v := .agg #[.string lit, .int .i64 kind, .bool bad, .int .i32 ch, .slice ta ns.length tc]) (by simp [results, Tryd.results49, go_sem, r0, r1, r2, r3, r4]) rfl ?_
  have hBB : w.heap.size < E.B := by have := hB2.out; have := HD.out.size; omega
  exact ⟨lit, kind, bad, ch, ns, hR.out, hch.out, hns.out, ta, tc, E.B, rfl, row_set (row_set (row_set (row_set (row_set hrow.out hBB) hBB) hBB) hBB) hBB, ((((hBel.out.setCell (Nat.le_refl _) _).setCell (Nat.le_refl _) _).setCell (Nat.le_refl _) _).setCell (Nat.le_refl _) _).setCell (Nat.le_refl _) _⟩

set_option maxRecDepth 100000 in
set_option maxHeartbeats 1000000 in
theorem implPoint_calls {R : TokR} (src : ByteArray) (x : Nat) (l : List Nat) (ea : Addr) (htok : ReadsPoint R x l 0) (w : World) (hG : Glob w ea) (hok : okAll (x :: l)) (hs : src.data.toList = encs (x :: l)) (hmax : (src.size : Int) ≤ 1900) (hw : 12 ≤ w.heap.size) :
    Calls Tryd.prog 31 #[.string src] w (ImplR R w) := by
  have hcv := fun w s => run_bytes_of_string (P := Tryd.prog) w 9 41 5 s Tryd.underlying9 Tryd.underlying41 Tryd.underlying5
  have HG := Lib.hid hG
  have HOK := Lib.hid hok
  have HS := Lib.hid hs
  have HT := Lib.hid htok
  have hn : Hid (src.size = (encs (x :: l)).length) := by have := congrArg List.length hs; rw [Array.length_toList] at this; exact this
  clear hG hok hs htok
  go_enter Tryd.func31, Tryd.ntmps31
  go_wp2_with fail
  have hcap := grownCap_ge (w.alloc ipart0) src.size 0 5
  have hX : Hid (∃ cap, cap = grownCap (w.alloc ipart0) src.size 0 5) := ⟨_, rfl⟩
  obtain ⟨cap, hce⟩ := hX.out
  have HD := Lib.hid (srcAt cap HG.out HS.out)
  rw [← hce] at hcap
  go_at_call 49
  change Calls Tryd.prog 49 #[.slice (some ⟨w.heap.size + 1, 0, none⟩) src.size (grownCap (w.alloc ipart0) src.size 0 5)] (srcW w src (grownCap (w.alloc ipart0) src.size 0 5)) _
  rw [← hce]
  refine (zzPoint_calls (w.heap.size + 1) src.size cap x l ea HT.out (srcW w src cap) HD.out.glob HOK.out hn.out hmax (Int.ofNat_le.2 hcap) (by rw [HD.out.size]; omega) HD.out.text).mono ?_
  rintro e w2 ⟨lit, kind, bad, ch, ns, hR, hb, hns, ta, tc, B, rfl, hrow, hBel⟩
  have hR := Lib.hid hR
  have hrow := Lib.hid hrow
  have hBel := Lib.hid hBel
  have hb := Lib.hid hb
  go_wp2_with (go_at_call 35; refine (partOf_row lit kind ch bad ns _ B w2 hb.out.1 hb.out.2 hns hrow.out).mono ?_; rintro e w3 ⟨v, l', rfl, htx, hrow3, hBel3⟩; obtain ⟨ta3, tc3, rfl⟩ := ownsRow_slice hrow3; obtain ⟨r0, r1, r2, r3, r4, rf, hB4⟩ := implEnd HD.out hBel.out hBel3; have hrow3 := Lib.hid hrow3; have htx := Lib.hid htx; have hB4 := Lib.hid hB4; have hz : Hid (w.heap.size < w2.heap.size) := (by have h1 := hBel.out.size; have h2 := HD.out.size; exact (by omega : w.heap.size < w2.heap.size)); clear hBel3)
  refine bodyPost_ret (v := .agg #[.string lit, .int .i64 kind, .bool bad, .int .i64 ch, .slice ta3 l'.length tc3]) (by simp [results, Tryd.results31, go_sem, r0, r1, r2, r3, r4]) rfl ?_
  have hz := hz.out
  exact ⟨lit, kind, bad, ch, ns, hR.out, _, l', rfl, htx.out, ownsRow_base (row_set (row_set (row_set (row_set (row_set hrow3.out hz) hz) hz) hz) hz) (Nat.le_of_lt hz), ((((hB4.out.setCell (Nat.le_refl _) _).setCell (Nat.le_refl _) _).setCell (Nat.le_refl _) _).setCell (Nat.le_refl _) _).setCell (Nat.le_refl _) _⟩
end Go.Proofs.YtnehkpoggkfikaaDoor

namespace Go.Proofs.YtnehkpoggkfikaaDoor
open Go.RowKit
set_option linter.unusedVariables false

theorem dgt_pos {hex : Bool} {c : Nat} (h : dgt hex c) : 0 < c ∧ c < 128 := by
  refine ⟨?_, dgt_lt h⟩
  rcases h with h | ⟨_, h1, h2⟩
  · omega
  · rcases Nat.eq_zero_or_pos c with rfl | h
    · have : low 0 = 32 := by decide +kernel
      omega
    · exact h
/-- A character of a literal. -/
def Asc (c : Nat) : Prop := 0 < c ∧ c < 128
theorem grp_asc {m : Nat} (hm : m ≤ 10 ∨ m = 16) {a : List Nat} (h : Grp (dOf m) a) : ∀ c ∈ a, Asc c := by
  intro c hc
  rcases h.cls c hc with rfl | h
  · exact ⟨by omega, by omega⟩
  · exact dgt_pos (dOf_dgt true (hm.imp id fun e => ⟨e, rfl⟩) h)
theorem pt_asc {m : Nat} (hm : m ≤ 10 ∨ m = 16) {f : Option (List Nat)} (h : FrIs m f) : ∀ c ∈ ptL f, Asc c := by
  cases f with
  | none => intro c hc; simp [ptL] at hc
  | some f =>
    intro c hc
    simp only [ptL, List.mem_cons] at hc
    rcases hc with rfl | hc
    · exact ⟨by omega, by omega⟩
    · rcases h with rfl | h
      · cases hc
      · exact grp_asc hm h.1 c hc
theorem ex_asc {hex : Bool} {x : Option (Nat × List Nat × List Nat)} (h : ExIs hex x) : ∀ c ∈ exL x, Asc c := by
  cases x with
  | none => intro c hc; simp [exL] at hc
  | some x =>
    obtain ⟨y, sg, ds⟩ := x
    obtain ⟨h1, h2, h3⟩ := h
    intro c hc
    simp only [exL, List.mem_cons, List.mem_append] at hc
    rcases hc with rfl | hc | hc
    · unfold LetOk at h1; unfold Asc; omega
    · rcases h2 with rfl | rfl | rfl
      · cases hc
      · simp at hc; subst hc; exact ⟨by omega, by omega⟩
      · simp at hc; subst hc; exact ⟨by omega, by omega⟩
    · exact grp_asc (.inl (by omega)) h3.1 c hc
theorem im_asc (im : Bool) : ∀ c ∈ imL im, Asc c := by
  intro c hc
  unfold imL at hc
  split at hc
  · simp at hc; subst hc; exact ⟨by omega, by omega⟩
  · cases hc
theorem lit_ascii {w : List Nat} {f : Option (List Nat)} {x : Option (Nat × List Nat × List Nat)} {im : Bool} (h : Lit w f x im) : ∀ c ∈ litL w f x im, Asc c := by
  have go : ∀ (w : List Nat) (f : Option (List Nat)) (x : Option (Nat × List Nat × List Nat)), (∀ c ∈ w, Asc c) → (∀ c ∈ ptL f, Asc c) → (∀ c ∈ exL x, Asc c) → ∀ c ∈ litL w f x im, Asc c := by
    intro w f x h1 h2 h3 c hc
    unfold litL at hc
    simp only [List.mem_append] at hc
    rcases hc with hc | hc | hc | hc
    · exact h1 c hc
    · exact h2 c hc
    · exact h3 c hc
    · exact im_asc im c hc
  have two : ∀ (y : Nat) (g : List Nat), Asc y → (∀ c ∈ g, Asc c) → ∀ c ∈ 48 :: y :: g, Asc c := by
    intro y g hy hg c hc
    simp only [List.mem_cons] at hc
    rcases hc with rfl | rfl | hc
    · exact ⟨by omega, by omega⟩
    · exact hy
    · exact hg c hc
  cases h with
  | dec w f x im hw hf hx h2 hi =>
    refine go _ _ _ ?_ (pt_asc (.inl (by omega)) hf) (ex_asc hx)
    rcases hw with rfl | hw
    · intro c hc; cases hc
    · exact grp_asc (.inl (by omega)) hw.1
  | oct g im h =>
    refine go _ _ _ ?_ (fun c hc => by simp [ptL] at hc) (fun c hc => by simp [exL] at hc)
    intro c hc
    simp only [List.mem_cons] at hc
    rcases hc with rfl | hc
    · exact ⟨by omega, by omega⟩
    · exact grp_asc (.inl (by omega)) h c hc
  | hex y w f x im hy hw hf hx h2 h3 =>
    refine go _ _ _ (two y w (by unfold Asc; omega) ?_) (pt_asc (.inr rfl) hf) (ex_asc hx)
    rcases hw with rfl | hw
    · intro c hc; cases hc
    · exact grp_asc (.inr rfl) hw
  | pre m y g im h hx =>
    refine go _ _ _ (two y g (by unfold Asc; omega) (grp_asc (by omega) h)) (fun c hc => by simp [ptL] at hc) (fun c hc => by simp [exL] at hc)

theorem behd_of {b : List Nat} (h : b ∈ behinds) : Behd b := by
  intro c t e
  simp only [behinds, List.mem_cons, List.not_mem_nil, or_false] at h
  rcases h with rfl | rfl | rfl | rfl | rfl | rfl | rfl | rfl | rfl
  all_goals first | (injection e with e1 _; omega) | cases e
theorem asc_ok {l : List Nat} (h : ∀ c ∈ l, Asc c) : okAll l := fun c hc => by
  have := h c hc
  unfold Asc at this; unfold okR; omega
theorem asc_encs {l : List Nat} (h : ∀ c ∈ l, Asc c) : encs l = l.map (·.toUInt8) := by
  induction l with
  | nil => rfl
  | cons c l ih =>
    have hc := h c (by simp)
    unfold Asc at hc
    simp only [encs, List.map_cons]
    rw [enc_ascii c hc.2, ih fun x hx => h x (by simp [hx])]; rfl
theorem toN_encs {s : ByteArray} (h : ∀ c ∈ toN s, Asc c) : s.data.toList = encs (toN s) := by
  rw [asc_encs h]; unfold toN
  rw [List.map_map]
  conv => lhs; rw [← List.map_id s.data.toList]
  apply List.map_congr_left
  intro u _
  simp
theorem byteAt_toN {s : ByteArray} {l : List Nat} (e : toN s = l) (j : Nat) (h : j < l.length) : Sep.byteAt s j = (l[j] : Int) := by
  subst e
  have h2 : j < s.size := by rw [← toN_len s]; exact h
  unfold Sep.byteAt
  rw [dif_pos h2, toN_get s j h2]
/-- What a literal's text gives: l is what the number's reader reads, p0 stands ahead. -/
def NumText (s : ByteArray) (k : Nat) (b : List Nat) (p0 : List UInt8) (seen : Bool) (l : List Nat) : Prop :=
  ∀ lit kind bad ch ns, NumIs p0 seen l lit kind bad ch ns → lit = s ∧ kind = k ∧ bad = false ∧ ch = chOf b ∧ ns = []
theorem num_is {s : ByteArray} {w : List Nat} {f : Option (List Nat)} {x : Option (Nat × List Nat × List Nat)} {im : Bool} (h : Lit w f x im) (e : toN s = litL w f x im) {b : List Nat} {p0 : List UInt8} {seen : Bool} {l L : List Nat}
    (hl : l = L ++ b) (hp : s.data.toList = p0 ++ encs L) (hn : NumOk (numF p0.length seen l) L.length (litKind f x im)) : NumText s (litKind f x im) b p0 seen l := by
  rintro lit kind bad ch ns ⟨h1, h2, h3, z, h4, h5, h6⟩
  obtain ⟨n1, n2, n3, n4⟩ := hn
  have e1 : lit = s := by
    rw [h1, n1, hl, List.take_left, ← hp]
  have e2 : ((numF p0.length seen l).ok && !(decide ((numF p0.length seen l).kind = 0) && decide (0 ≤ (numF p0.length seen l).inv))) = true := by
    rw [n3, n2]
    by_cases h0 : litKind f x im = 0
    · have := n4 h0
      simp; omega
    · simp [h0]
  have e3 : ((numF p0.length seen l).hs && decide (0 ≤ z)) = false := by
    cases hh : (numF p0.length seen l).hs with
    | false => rfl
    | true =>
      have hA := h4 e2 hh
      rw [e1] at hA
      have hz : s.size = (litL w f x im).length := by rw [← e, toN_len]
      have hpt := lit_parted h hz (byteAt_toN e) (fun c hc => (lit_ascii h c hc).2)
      rcases hA with ⟨_, rfl⟩ | ⟨hno, _⟩
      · rfl
      · exact absurd hpt hno
  rw [e2, e3] at h5 h6
  exact ⟨e1, by rw [h2, n2], h5, by rw [h3, n1, hl, List.drop_left], List.eq_nil_of_length_eq_zero h6⟩
/-- The text that is handed to the reader. -/
def NumSrc (s : ByteArray) (b : List Nat) (x : Nat) (l : List Nat) : Prop :=
  okAll (x :: l) ∧ ((s ++ ⟨(encs b).toArray⟩ : ByteArray).data.toList = encs (x :: l)) ∧ ((s ++ ⟨(encs b).toArray⟩ : ByteArray).size : Int) ≤ 1900
theorem num_src {s : ByteArray} {b : List Nat} {x : Nat} {l : List Nat} (h : ∀ c ∈ toN s, Asc c) (hs : s.size ≤ 200) (hb : b ∈ behinds) (e : x :: l = toN s ++ b) : NumSrc s b x l := by
  obtain ⟨okb, hb2⟩ := behinds_ok hb
  refine ⟨?_, ?_, ?_⟩
  · rw [e]; exact okAll_append.2 ⟨asc_ok h, okb⟩
  · rw [e, encs_append, ← toN_encs h]
    simp only [ByteArray.data_append, Array.toList_append]
  · simp only [ByteArray.size_append]
    have h2 : (⟨(encs b).toArray⟩ : ByteArray).size = (encs b).length := by show (encs b).toArray.size = _; simp
    rw [h2]; omega
theorem num_whole {s : ByteArray} {k : Nat} {b : List Nat} (h : KindL k (toN s)) (hs : s.size ≤ 200) (hb : b ∈ behinds) (h0 : ∃ c t, toN s = c :: t ∧ 48 ≤ c ∧ c ≤ 57) : ∃ x l, NumSrc s b x l ∧ NumText s k b [] false (x :: l) := by
  obtain ⟨w, f, x, im, hL, e, rfl⟩ := kind_lit h
  have hA : ∀ c ∈ toN s, Asc c := by rw [e]; exact lit_ascii hL
  obtain ⟨c, t, e0, hc⟩ := h0
  have hw : w ≠ [] := by
    rintro rfl
    rw [e] at e0
    cases hL with
    | dec w f x im hw hf hx h2 hi =>
      rcases h2 with h2 | ⟨a, rfl, ha⟩
      · exact h2 rfl
      · simp only [ptL, List.nil_append, List.cons_append] at e0
        injection e0 with e1 _
        omega
  refine ⟨c, t ++ b, num_src hA hs hb (by rw [e0]; rfl), ?_⟩
  have e1 : c :: (t ++ b) = toN s ++ b := by rw [e0]; rfl
  refine num_is (L := toN s) hL e e1 (by rw [List.nil_append]; exact toN_encs hA) ?_
  have := num_lit (q := ([] : List UInt8).length) hL hw (behd_of hb)
  rw [show w ++ (ptL f ++ (exL x ++ (imL im ++ b))) = c :: (t ++ b) by rw [e1, e]; simp] at this
  rw [e]; exact this
theorem num_point {s : ByteArray} {k : Nat} {b : List Nat} (h : KindL k (toN s)) (hs : s.size ≤ 200) (hb : b ∈ behinds) (h0 : ∃ t, toN s = 46 :: t) : ∃ l, NumSrc s b 46 l ∧ NumText s k b (enc 46) true l := by
  obtain ⟨w, f, x, im, hL, e, rfl⟩ := kind_lit h
  have hA : ∀ c ∈ toN s, Asc c := by rw [e]; exact lit_ascii hL
  obtain ⟨t, e0⟩ := h0
  refine ⟨t ++ b, num_src hA hs hb (by rw [e0]; rfl), ?_⟩
  have hd : ∃ a, w = [] ∧ f = some a ∧ Run 10 a ∧ ExIs false x := by
    rw [e] at e0
    have hne : ∀ r : List Nat, (48 :: r) ≠ 46 :: t := fun r h => by injection h with h _; omega
    cases hL with
    | dec w f x im hw hf hx h2 hi =>
      rcases hw with rfl | hw
      · rcases h2 with h2 | ⟨a, rfl, ha⟩
        · exact absurd rfl h2
        · exact ⟨a, rfl, rfl, hf.resolve_left ha, hx⟩
      · exfalso
        cases w with
        | nil => exact hw.1.ne rfl
        | cons c w =>
          have e1 : c = 46 := by injection e0
          rcases hw.1.cls c (by simp) with h | h
          · omega
          · unfold dOf at h; rw [if_neg (by omega)] at h; omega
    | oct g im h => exact absurd e0 (hne _)
    | hex y w f x im hy hw hf hx h2 h3 => exact absurd e0 (hne _)
    | pre m y g im h hx => exact absurd e0 (hne _)
  obtain ⟨a, rfl, rfl, hR, hX⟩ := hd
  have e46 : enc 46 = [46] := by decide +kernel
  have et : t = a ++ (exL x ++ imL im) := by
    rw [e] at e0
    simp only [ptL, List.nil_append, List.cons_append] at e0
    injection e0 with _ e0
    exact e0.symm
  refine num_is (L := t) hL e rfl ?_ ?_
  · rw [toN_encs hA, e0]; rfl
  · have := num_lit_pt (q := (enc 46).length) hR hX (im := im) (behd_of hb)
    rw [show a ++ (exL x ++ (imL im ++ b)) = t ++ b by rw [et]; simp, show a ++ (exL x ++ imL im) = t from et.symm] at this
    exact this

theorem ok_lt {l : List Nat} (h : okAll l) : ∀ c ∈ l, c < 1114112 := fun c hc => by
  have := h c hc
  unfold okR at this; omega
theorem reads_number {x : Nat} {l : List Nat} (ho : okAll (x :: l)) : ReadsNumber (NumIs [] false (x :: l)) x l 0 := by
  intro E w h
  exact (number_calls E false [] (x :: l) 0 w h.open_ h.nil_ (fun b hb => by cases hb) (ok_lt ho)).mono fun e w' hp => numRes_end ho (numF_kind _ _ _) hp
theorem reads_point {l : List Nat} (ho : okAll (46 :: l)) : ReadsPoint (NumIs (enc 46) true l) 46 l 0 := by
  intro E w h
  have hl : okAll l := fun c hc => ho c (by simp [hc])
  exact (number_calls E true (enc 46) l 0 w h.open_ h.nil_ (by decide +kernel) (ok_lt hl)).mono fun e w' hp => numRes_end hl (numF_kind _ _ _) hp
end Go.Proofs.YtnehkpoggkfikaaDoor

namespace Go.Proofs.YtnehkpoggkfikaaDoor
open Go.RowKit
set_option linter.unusedVariables false

theorem extract_all (s : ByteArray) (t : ByteArray) (h : (s ++ t).size ≤ 1900) : ¬ 9223372036854775807 < s.size + t.size := by
  simp only [ByteArray.size_append] at h; omega
set_option maxRecDepth 100000 in
set_option maxHeartbeats 2000000 in
theorem fnNumber_calls (s : ByteArray) (n : Int) (ea : Addr) (w : World) (h0 : 0 ≤ n) (h1 : n < 256) (hG : Glob w ea) (hw : 12 ≤ w.heap.size) :
    Calls Tryd.prog 13 #[.string s, .int .u8 n] w fun e w' => e = .returned (.bool true) ∧ Below w.heap.size w w' := by
  have HG := Lib.hid hG
  clear hG
  by_cases hs : (s.size : Int) ≤ 2147483647
  case neg =>
    have hs' : decide (2147483647 < (s.size : Int)) = true := by simp; omega
    go_enter Tryd.func13, Tryd.ntmps13
    go_wp2_with fail
    go_ret
    exact ⟨rfl, Below.refl _ _⟩
  have hs' : decide (2147483647 < (s.size : Int)) = false := by simp; omega
  by_cases he : s.size = 0
  · have e := size_zero he
    subst e
    clear he hs'
    go_enter Tryd.func13, Tryd.ntmps13
    go_wp2_with fail
    go_ret
    exact ⟨rfl, Below.refl _ _⟩
  obtain ⟨hne, hne2⟩ := toList_ne he
  have hpos : 0 < s.size := by omega
  clear he
  by_cases h150 : (s.size : Int) ≤ 150
  case neg =>
    have h1' : decide (150 < (s.size : Int)) = true := by simp; omega
    go_enter Tryd.func13, Tryd.ntmps13
    go_wp2_with fail
    go_ret
    exact ⟨rfl, Below.refl _ _⟩
  have h1' : decide (150 < (s.size : Int)) = false := by simp; omega
  have hcons := toN_cons (s := s) hpos
  by_cases hlo : (s[0].toNat : Int) < 48
  · have tlo : decide ((s[0].toNat : Int) < 48) = true := decide_eq_true hlo
    clear hlo hcons
    go_enter Tryd.func13, Tryd.ntmps13
    go_wp2_with fail
    go_ret
    exact ⟨rfl, Below.refl _ _⟩
  have tlo : decide ((s[0].toNat : Int) < 48) = false := decide_eq_false hlo
  by_cases hhi : (57 : Int) < (s[0].toNat : Int)
  · have thi : decide ((57 : Int) < (s[0].toNat : Int)) = true := decide_eq_true hhi
    clear hlo hhi hcons
    go_enter Tryd.func13, Tryd.ntmps13
    go_wp2_with fail
    go_ret
    exact ⟨rfl, Below.refl _ _⟩
  have thi : decide ((57 : Int) < (s[0].toNat : Int)) = false := decide_eq_false hhi
  have HD0 : Hid (∃ c t, toN s = c :: t ∧ 48 ≤ c ∧ c ≤ 57) := ⟨_, _, hcons, by omega, by omega⟩
  have HS : Hid (s.size ≤ 200) := by show s.size ≤ 200; omega
  clear hlo hhi hcons
  go_enter Tryd.func13, Tryd.ntmps13
  go_wp2_with fail
  go_at_call 30
  refine (kindOf_calls s _ (by omega)).mono ?_
  rintro e w1 ⟨⟨z, rfl, hz⟩, hB1⟩
  have HB1 := Lib.hid hB1
  have HZ := Lib.hid hz
  clear hB1 hz
  go_wp2_with fail
  go_at_call 19
  refine (behind_calls n _ h0 h1).mono ?_
  rintro e w2 ⟨⟨b, hb, rfl⟩, hB2⟩
  have HB2 : Hid (Below w.heap.size w w2) := HB1.out.trans (hB2.mono HB1.out.size)
  rw [chOf_firstOf b]
  have HBH := Lib.hid hb
  clear hB2 hb
  by_cases hzn : z = -1
  · subst hzn
    go_wp2_with fail
    go_ret
    exact ⟨rfl, HB2.out⟩
  obtain ⟨k, rfl, hk⟩ := HZ.out.resolve_left hzn
  have tz : decide ((k : Int) < 0) = false := by simp
  obtain ⟨x, l, hsrc, htext⟩ := num_whole hk HS.out HBH.out HD0.out
  have HSRC := Lib.hid hsrc
  have HTX := Lib.hid htext
  have hlen : ¬ 9223372036854775807 < s.size + (encs b).length := by
    have h2 : (⟨(encs b).toArray⟩ : ByteArray).size = (encs b).length := by show (encs b).toArray.size = _; simp
    have := hsrc.2.2
    simp only [ByteArray.size_append] at this
    omega
  clear hzn hk hsrc htext
  go_wp2_with fail
  go_at_call 29
  refine (implNumber_calls _ x l ea (reads_number HSRC.out.1) _ (glob_below HG.out HB2.out) HSRC.out.1 HSRC.out.2.1 HSRC.out.2.2 (Nat.le_trans hw HB2.out.size)).mono ?_
  rintro e w4 ⟨lit, kind, bad, ch, ns, hIs, v, l', rfl, htx, hrow, hB4⟩
  obtain ⟨rfl, rfl, rfl, rfl, rfl⟩ := HTX.out _ _ _ _ _ hIs
  obtain ⟨ta, tc, rfl⟩ := no_note htx hrow
  have HB4 : Hid (Below w.heap.size w w4) := HB2.out.trans (hB4.mono HB2.out.size)
  clear hIs htx hrow hB4
  go_wp2_with fail
  go_at_call 20
  refine (is_true _ k _ ta tc _).mono ?_
  rintro e w5 ⟨rfl, hB5⟩
  go_wp2_with fail
  go_ret
  exact ⟨rfl, HB4.out.trans (hB5.mono HB4.out.size)⟩

set_option maxRecDepth 100000 in
set_option maxHeartbeats 2000000 in
theorem fnPoint_calls (s0 : ByteArray) (n : Int) (ea : Addr) (w : World) (h0 : 0 ≤ n) (h1 : n < 256) (hG : Glob w ea) (hw : 12 ≤ w.heap.size) :
    Calls Tryd.prog 14 #[.string s0, .int .u8 n] w fun e w' => e = .returned (.bool true) ∧ Below w.heap.size w w' := by
  have HG := Lib.hid hG
  clear hG
  by_cases hs : (s0.size : Int) ≤ 2147483647
  case neg =>
    have hs' : decide (2147483647 < (s0.size : Int)) = true := by simp; omega
    go_enter Tryd.func14, Tryd.ntmps14
    go_wp2_with fail
    go_ret
    exact ⟨rfl, Below.refl _ _⟩
  have hs' : decide (2147483647 < (s0.size : Int)) = false := by simp; omega
  by_cases h150 : (s0.size : Int) ≤ 150
  case neg =>
    have h1' : decide (150 < (s0.size : Int)) = true := by simp; omega
    go_enter Tryd.func14, Tryd.ntmps14
    go_wp2_with fail
    go_ret
    exact ⟨rfl, Below.refl _ _⟩
  have h1' : decide (150 < (s0.size : Int)) = false := by simp; omega
  have hl0 : ¬ 9223372036854775807 < 1 + s0.size := by omega
  obtain ⟨s, hse⟩ : ∃ s : ByteArray, s = ⟨#[46]⟩ ++ s0 := ⟨_, rfl⟩
  have hsz : s.size = 1 + s0.size := by rw [hse, ByteArray.size_append]; rfl
  have HS : Hid (s.size ≤ 200) := by show s.size ≤ 200; omega
  have HD0 : Hid (∃ t, toN s = 46 :: t) := ⟨toN s0, by rw [hse]; unfold toN; simp only [ByteArray.data_append, Array.toList_append, List.map_append]; rfl⟩
  have HSE := Lib.hid hse
  clear hse hsz
  go_enter Tryd.func14, Tryd.ntmps14
  go_wp2_with fail
  go_at_call 30
  rw [← HSE.out]
  refine (kindOf_calls s _ (by have := HS.out; omega)).mono ?_
  rintro e w1 ⟨⟨z, rfl, hz⟩, hB1⟩
  have HB1 := Lib.hid hB1
  have HZ := Lib.hid hz
  clear hB1 hz
  go_wp2_with fail
  go_at_call 19
  refine (behind_calls n _ h0 h1).mono ?_
  rintro e w2 ⟨⟨b, hb, rfl⟩, hB2⟩
  have HB2 : Hid (Below w.heap.size w w2) := HB1.out.trans (hB2.mono HB1.out.size)
  rw [chOf_firstOf b]
  have HBH := Lib.hid hb
  clear hB2 hb
  by_cases hzn : z = -1
  · subst hzn
    go_wp2_with fail
    go_ret
    exact ⟨rfl, HB2.out⟩
  obtain ⟨k, rfl, hk⟩ := HZ.out.resolve_left hzn
  have tz : decide ((k : Int) < 0) = false := by simp
  obtain ⟨l, hsrc, htext⟩ := num_point hk HS.out HBH.out HD0.out
  have HSRC := Lib.hid hsrc
  have HTX := Lib.hid htext
  have hlen : ¬ 9223372036854775807 < s.size + (encs b).length := by
    have h2 : (⟨(encs b).toArray⟩ : ByteArray).size = (encs b).length := by show (encs b).toArray.size = _; simp
    have := hsrc.2.2
    simp only [ByteArray.size_append] at this
    omega
  clear hzn hk hsrc htext
  go_wp2_with fail
  go_at_call 31
  refine (implPoint_calls _ 46 l ea (reads_point HSRC.out.1) _ (glob_below HG.out HB2.out) HSRC.out.1 HSRC.out.2.1 HSRC.out.2.2 (Nat.le_trans hw HB2.out.size)).mono ?_
  rintro e w4 ⟨lit, kind, bad, ch, ns, hIs, v, l', rfl, htx, hrow, hB4⟩
  obtain ⟨rfl, rfl, rfl, rfl, rfl⟩ := HTX.out _ _ _ _ _ hIs
  obtain ⟨ta, tc, rfl⟩ := no_note htx hrow
  have HB4 : Hid (Below w.heap.size w w4) := HB2.out.trans (hB4.mono HB2.out.size)
  clear hIs htx hrow hB4
  go_wp2_with fail
  go_at_call 20
  refine (is_true _ k _ ta tc _).mono ?_
  rintro e w5 ⟨rfl, hB5⟩
  go_wp2_with fail
  go_ret
  exact ⟨rfl, HB4.out.trans (hB5.mono HB4.out.size)⟩
end Go.Proofs.YtnehkpoggkfikaaDoor
