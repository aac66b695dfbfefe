/-
  The statement on keywords, walked. Conditions: each law's own.
-/
import Derived.Test.YtnehkpoggkfikaaDoorLName
namespace Go.Proofs.YtnehkpoggkfikaaDoor
open Go.RowKit
set_option linter.unusedVariables false

def kwMid : ByteArray := kwText.extract 1 (kwText.size - 1)
theorem kw_words : wAll kwMid = kwL := by decide +kernel
theorem kwWords_calls (K : ByteArray) (hK : K = kwMid) (w : World) : Calls Tryd.prog 32 #[.string K] w (WordsPost kwL w) := by
  subst hK
  have h := words_calls kwMid w (by decide +kernel)
  rw [kw_words] at h
  exact h
/-- The keywords as a row. -/
theorem row_words {w w' : World} {v : Value} (h : WAt w w' v kwL) : ∃ g cap, v = .slice (some ⟨g, 0, none⟩) 25 cap ∧ ∀ j, j < 25 → w'.cell? ⟨g, j, none⟩ = some (.string (kwS (j + 22))) := by
  obtain ⟨⟨-, ⟨-, h⟩ | ⟨g, cap, cur, rfl, hg, hb, hle, hmx, hsz, ht⟩⟩, -⟩ := h
  · cases h
  · refine ⟨g, cap, rfl, fun j hj => ?_⟩
    unfold World.cell?
    rw [hb]
    show cur[j]? = _
    have e : cur[j]? = (cur.toList.take (kwL.length * 1))[j]? := by
      rw [List.getElem?_take, if_pos (by show j < 25 * 1; omega), Array.getElem?_toList]
    rw [e, ht, List.getElem?_map]
    have hk : kwL[j]? = some (kwS (j + 22)) := by
      unfold kwS
      rw [if_neg (by omega), Nat.add_sub_cancel, List.getD_eq_getElem?_getD]
      have : j < kwL.length := hj
      rw [List.getElem?_eq_getElem this]; rfl
    rw [hk]; rfl
/-- ASCII bytes as characters. -/
theorem asc_list : ∀ l : List UInt8, (∀ u ∈ l, u.toNat < 128) → l = encs (l.map (·.toNat))
  | [], _ => rfl
  | u :: l, h => by
    have hu := h u (by simp)
    simp only [List.map_cons, encs]
    rw [enc_ascii _ hu, ← asc_list l (fun v hv => h v (by simp [hv]))]
    simp
/-- A keyword's characters. -/
def KwCh (s : ByteArray) (x : Nat) (a : List Nat) : Prop := s.data.toList = encs (x :: a) ∧ okAll (x :: a) ∧ (∀ c ∈ a, idc c = true) ∧ s.size ≤ 30
def kwChB (l : List UInt8) : Bool := decide (l ≠ []) && decide (l.length ≤ 30) && l.all fun u => decide (0 < u.toNat ∧ u.toNat < 128) && idc u.toNat
theorem kwCh_of {s : ByteArray} (h : kwChB s.data.toList = true) : ∃ x a, KwCh s x a := by
  unfold kwChB at h
  simp only [Bool.and_eq_true, decide_eq_true_eq, List.all_eq_true] at h
  obtain ⟨⟨h1, h2⟩, h3⟩ := h
  have h4 := asc_list s.data.toList fun u hu => (h3 u hu).1.2
  cases hd : s.data.toList with
  | nil => exact absurd hd h1
  | cons u l =>
    rw [hd] at h4 h3 h2
    refine ⟨u.toNat, l.map (·.toNat), by rw [hd]; exact h4, fun c hc => ?_, fun c hc => ?_, ?_⟩
    · have hc' : c ∈ (u :: l).map (·.toNat) := hc
      obtain ⟨v, hv, rfl⟩ := List.mem_map.1 hc'
      have := (h3 v hv).1
      unfold okR; omega
    · obtain ⟨v, hv, rfl⟩ := List.mem_map.1 hc
      exact (h3 v (by simp [hv])).2
    · have : s.data.toList.length = s.size := rfl
      rw [hd] at this; omega
theorem kw_chars : ∀ i : Fin 25, kwChB (kwS (i.val + 22)).data.toList = true ∧ kwChB (kwS (i.val + 22) ++ ⟨#[115]⟩).data.toList = true ∧ ∀ j : Fin 25, (kwS (i.val + 22) ++ ⟨#[115]⟩ : ByteArray) ≠ kwS (j.val + 22) := by decide +kernel

set_option maxRecDepth 100000 in
set_option maxHeartbeats 4000000 in
theorem fnKeyword_calls (n t : Int) (ea : Addr) (w : World) (n0 : 0 ≤ n) (n1 : n < 256) (t0 : 0 ≤ t) (t1 : t < 256) (hG : Glob w ea) (hT : Tabs w) (hw : 12 ≤ w.heap.size) :
    Calls Tryd.prog 15 #[.int .u8 n, .int .u8 t] w fun e w' => e = .returned (.bool true) ∧ Below w.heap.size w w' := by
  have HG := Lib.hid hG
  have HT := Lib.hid hT
  clear hG hT
  go_enter Tryd.func15, Tryd.ntmps15
  go_wp2_with fail
  go_at_call 32
  refine (kwWords_calls _ (by decide +kernel) _).mono ?_
  rintro e w1 ⟨v, rfl, hW⟩
  obtain ⟨g, cap, rfl, hcells⟩ := row_words hW
  have HB1 : Hid (Below w.heap.size w w1) := hW.2
  have hj0 : 0 ≤ n % 25 := by omega
  have hj1 : n % 25 < 25 := by omega
  obtain ⟨j, hj⟩ : ∃ j : Nat, j = (n % 25).toNat := ⟨_, rfl⟩
  have hjl : j < 25 := by omega
  have hcell := hcells (n % 25).toNat (by omega)
  rw [← hj] at hcell
  obtain ⟨hc1, hc2, hc3⟩ := kw_chars ⟨j, hjl⟩
  simp only at hc1 hc2 hc3
  have HK3 : Hid (∀ u : Nat, 22 ≤ u → u ≤ 46 → (kwS (j + 22) ++ ⟨#[115]⟩ : ByteArray) ≠ kwS u) := fun u h1 h2 e => by
    have := hc3 ⟨u - 22, by omega⟩
    simp only [show u - 22 + 22 = u by omega] at this
    exact this e
  obtain ⟨x1, a1, hA1⟩ := kwCh_of hc1
  obtain ⟨x2, a2, hA2⟩ := kwCh_of hc2
  obtain ⟨S, hS⟩ : ∃ S, S = kwS (j + 22) := ⟨_, rfl⟩
  rw [← hS] at hcell hA1 hA2
  have HS := Lib.hid hS
  have H1 := Lib.hid hA1
  have H2 := Lib.hid hA2
  have hS30 : (S.size : Int) ≤ 30 := by have := hA1.2.2.2; omega
  have HJ := Lib.hid hj
  have hjn : Hid (22 ≤ j + 22 ∧ j + 22 ≤ 46) := ⟨by omega, by omega⟩
  rw [hj] at hcell
  clear hW hcells hc1 hc2 hc3 hA1 hA2 hS hj
  go_wp2_with fail
  go_at_call 19
  refine (behind_calls t _ t0 t1).mono ?_
  rintro e w2 ⟨⟨b, hb, rfl⟩, hB2⟩
  have HB2 : Hid (Below w.heap.size w w2) := HB1.out.trans (hB2.mono HB1.out.size)
  rw [chOf_firstOf b]
  obtain ⟨s1, s2, s3, s4⟩ := id_src H1.out.1 H1.out.2.1 (by have := H1.out.2.2.2; omega) hb
  obtain ⟨r1, r2, r3, r4⟩ := id_src H2.out.1 H2.out.2.1 (by have := H2.out.2.2.2; omega) hb
  have S1 := Lib.hid s1
  have S2 := Lib.hid s2
  have S3 := Lib.hid s3
  have S4 := Lib.hid s4
  have R1 := Lib.hid r1
  have R2 := Lib.hid r2
  have R3 := Lib.hid r3
  have R4 := Lib.hid r4
  have HM := Lib.hid (bhd_of hb)
  have hb2 := (behinds_ok hb).2
  have hl1 : ¬ 9223372036854775807 < S.size + (encs b).length := by omega
  have hl2 : ¬ 9223372036854775807 < S.size + 1 := by omega
  have hl3 : ¬ 9223372036854775807 < S.size + 1 + (encs b).length := by omega
  clear hB2 hb hb2 s1 s2 s3 s4 r1 r2 r3 r4 hcell hj0 hj1
  go_wp2_with fail
  go_at_call 33
  refine (implIdent_calls _ x1 a1 b ea _ (glob_below HG.out HB2.out) (HT.out.below hw HB2.out) S1.out S2.out S3.out (Nat.le_trans hw HB2.out.size) H1.out.2.2.1 HM.out).mono ?_
  rintro e w4 ⟨word, l17, ta, tc, hR, rfl, hB4⟩
  have hword : word = S := by
    rcases hR with ⟨u, u1, u2, e, e1⟩ | ⟨hno, -, -⟩
    · rw [e1, ← e]; exact S4.out
    · exact absurd (S4.out.trans HS.out) (hno _ hjn.out.1 hjn.out.2)
  subst hword
  have HB4 : Hid (Below w.heap.size w w4) := HB2.out.trans (hB4.mono HB2.out.size)
  have HB4a : Hid (∀ o : Obj, Below w.heap.size w (w4.alloc o)) := fun o => HB4.out.alloc HB4.out.size o
  clear hR hB4
  go_wp2_with fail
  go_at_call 33
  refine (implIdent_calls _ x2 a2 b ea _ (glob_below HG.out (HB4a.out _)) (HT.out.below hw (HB4a.out _)) R1.out R2.out R3.out (Nat.le_trans hw (HB4a.out _).size) H2.out.2.2.1 HM.out).mono ?_
  rintro e w6 ⟨word2, l2, tb, td, hR2, rfl, hB6⟩
  have hword2 : word2 = ⟨#[110, 97, 109, 101]⟩ ∧ l2 = word ++ ⟨#[115]⟩ := by
    rcases hR2 with ⟨u, u1, u2, e, -⟩ | ⟨-, e1, e2⟩
    · rw [R4.out, HS.out] at e; exact absurd e (HK3.out u u1 u2)
    · rw [R4.out] at e2; exact ⟨by rw [e1]; rfl, e2⟩
  obtain ⟨rfl, rfl⟩ := hword2
  have hsz : ∀ o : Obj, (w4.alloc o).heap.size = w4.heap.size + 1 := fun o => by simp
  have hlt : w4.heap.size < w6.heap.size := by
    have := hB6.size
    rw [hsz] at this; omega
  have hc : ∀ i, w6.cell? ⟨w4.heap.size, i, none⟩ = #[Value.string l17, .int .i64 0, .bool false, .int .i64 (chOf b), .slice ta 0 tc][i]? := fun i => by
    rw [hB6.cell (p := ⟨w4.heap.size, i, none⟩) (by rw [hsz]; show w4.heap.size < _; omega)]
    unfold World.cell?
    rw [(MapKept.heap_alloc w4 _).1]
    rfl
  have c3 : w6.cell? ⟨w4.heap.size, 3, none⟩ = some (.int .i64 (chOf b)) := hc 3
  have c4 : w6.cell? ⟨w4.heap.size, 4, none⟩ = some (.slice ta 0 tc) := hc 4
  have hn1 : ¬ w6.heap.size = w4.heap.size := by omega
  have hn2 : ¬ w4.heap.size = w6.heap.size := by omega
  have HB6 : Hid (Below w.heap.size w w6) := (HB4a.out _).trans (hB6.mono (HB4a.out _).size)
  clear hR2 hB6 hc hsz
  go_wp2_with fail
  go_ret
  exact ⟨rfl, HB6.out.alloc HB6.out.size _⟩
end Go.Proofs.YtnehkpoggkfikaaDoor
