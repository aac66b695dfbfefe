/-
  The walk through ident: a name or a keyword read. Conditions: the law's own.
-/
import Derived.Test.YtnehkpoggkfikaaDoorIdL
import Derived.Deep.DeepCutAuto
import Derived.Deep.CutBlock
import Derived.Deep.RegionHeld3
namespace Go.Proofs.YtnehkpoggkfikaaDoor
open Go.RowKit
set_option linter.unusedVariables false

/-- A name is being read: d has been read of a, b is still ahead. -/
def IdTo (E : Env) (p0 : List UInt8) (a more : List Nat) (d b : List Nat) (w wr : World) : Prop := a = d ++ b ∧ SA wr E (p0 ++ encs d) (b ++ more) 0 ∧ GF E w wr
theorem idTo_next {E : Env} {p0 : List UInt8} {a more d b : List Nat} {c : Nat} {w wr w' : World} (h : IdTo E p0 a more d (c :: b) w wr) (hS : SA w' E (p0 ++ encs d ++ enc c) (b ++ more) 0) (hF : GF E wr w') : IdTo E p0 a more (d ++ [c]) b w w' := by
  obtain ⟨h1, h2, h3⟩ := h
  refine ⟨by rw [h1]; simp, ?_, h3.trans hF⟩
  rw [encs_append]
  simpa [encs] using hS
theorem idTo_below {E : Env} {p0 : List UInt8} {a more d b : List Nat} {w wr w' : World} (h : IdTo E p0 a more d b w wr) (hB : Below wr.heap.size wr w') : IdTo E p0 a more d b w w' :=
  ⟨h.1, (h.2.1.below hB).1, h.2.2.trans (h.2.1.below hB).2⟩
def SomeB (w : World) (e : Ending) (w' : World) : Prop := (∃ b, e = .returned (.bool b)) ∧ w = w'
theorem someB (w : World) (b : Bool) : SomeB w (.returned (.bool b)) w := ⟨⟨b, rfl⟩, rfl⟩
set_option maxRecDepth 100000 in
theorem contains_calls (z : Int) (t : Nat) (w : World) (h : (22 : Int) ≤ (t : Int)) (h2 : (t : Int) ≤ 46) : Calls Tryd.prog 105 #[.int .u64 z, .int .u64 (t : Int)] w (SomeB w) := by
  go_enter Tryd.func105, Tryd.ntmps105
  go_wp2
  go_ret
  exact someB _ _
/-- Where the loops end: the name has been read. -/
def IdAll (E : Env) (lit : List UInt8) (more : List Nat) (w wr : World) : Prop := ScanAt wr E lit more 0 [] ∧ GF E w wr
theorem IdAll.of {E : Env} {p0 : List UInt8} {a more d : List Nat} {w wr : World} (h : IdTo E p0 a more d [] w wr) : IdAll E (p0 ++ encs a) more w wr := by
  obtain ⟨h1, ⟨ns, hn, h2⟩, h3⟩ := h
  rw [List.append_nil] at h1
  subst h1
  rw [List.nil_append] at h2
  obtain rfl := List.eq_nil_of_length_eq_zero hn
  exact ⟨h2, h3⟩
theorem IdAll.below {E : Env} {lit : List UInt8} {more : List Nat} {w wr w' : World} (h : IdAll E lit more w wr) (hB : Below wr.heap.size wr w') : IdAll E lit more w w' := by
  obtain ⟨⟨s, hS, ha⟩, hF⟩ := h
  exact ⟨⟨s, hS.below hB, ha⟩, hF.trans (GF.of_below hS hB)⟩
theorem IdAll.drewN {E : Env} {lit : List UInt8} {more : List Nat} {w wr : World} (h : IdAll E lit more w wr) (k : Nat) : IdAll E lit more w (wr.drewN k) := by
  obtain ⟨⟨s, hS, ha⟩, hF⟩ := h
  exact ⟨⟨s, hS.drewN k, ha⟩, hF.drewN k⟩
/-- The segment that has been read. -/
theorem seg_all (E : Env) (lit : List UInt8) (more : List Nat) (w wr : World) (h : IdAll E lit more w wr) :
    Calls Tryd.prog 87 #[.pointer (some ⟨E.c.sb, 0, none⟩)] wr fun e w' => e = .returned (.slice (some ⟨E.c.bb, 0, none⟩) lit.length 4096) ∧ ∃ k, w' = wr.drewN k := by
  obtain ⟨⟨s, hS, ha⟩, hF⟩ := h
  have := segment_calls E.c s wr hS.src ha.act ha.wide
  rw [ha.seg] at this
  exact this
theorem cells_all {E : Env} {lit : List UInt8} {more : List Nat} {w wr : World} (h : IdAll E lit more w wr) : ∀ j (hj : j < lit.length), wr.cell? ((⟨E.c.bb, 0, none⟩ : Addr).add j) = some (.int .u8 ((lit[j]).toNat : Int)) := by
  obtain ⟨⟨s, hS, ha⟩, hF⟩ := h
  have := hS.src.seg_cells ha.act ha.wide
  rw [ha.seg] at this
  exact this
theorem conv_all {E : Env} {lit : List UInt8} {more : List Nat} {w wr : World} (h : IdAll E lit more w wr) : Sem.run Tryd.prog (convert 41 9 (.slice (some ⟨E.c.bb, 0, none⟩) lit.length 4096)) wr = .ok (.string ⟨lit.toArray⟩) wr :=
  run_convert_bytes_back (P := Tryd.prog) wr 41 9 5 ⟨E.c.bb, 0, none⟩ 4096 lit Tryd.underlying41 Tryd.underlying5 Tryd.underlying9 (cells_all h)
theorem hash_all {E : Env} {lit : List UInt8} {more : List Nat} {w wr : World} (h : IdAll E lit more w wr) (h2 : 2 ≤ lit.length) (h3 : lit.length ≤ 100000) :
    Calls Tryd.prog 103 #[.slice (some ⟨E.c.bb, 0, none⟩) lit.length 4096] wr fun e w' => e = .returned (.int .u64 (hashS ⟨lit.toArray⟩)) ∧ ∃ k, w' = wr.drewN k := by
  have c0 := cells_all h 0 (by omega)
  have c1 := cells_all h 1 (by omega)
  simp [Addr.add] at c0 c1
  have e : hashS ⟨lit.toArray⟩ = hashV (lit[0].toNat : Int) (lit[1].toNat : Int) lit.length := by
    have hz : (⟨lit.toArray⟩ : ByteArray).size = lit.length := by show lit.toArray.size = _; simp
    unfold hashS bAt
    rw [dif_pos (by omega), dif_pos (by omega)]
    show hashV (lit[0].toNat : Int) (lit[1].toNat : Int) ((⟨lit.toArray⟩ : ByteArray).size : Int) = _
    rw [hz]
  rw [e]
  exact hash_calls E.c.bb lit.length 4096 lit[0].toNat lit[1].toNat wr (by have := UInt8.toNat_lt lit[0]; omega) (by have := UInt8.toNat_lt lit[1]; omega) c0 c1 (by omega) (by omega)
/-- No keyword has been read. -/
def NameAt (E : Env) (lit : List UInt8) (more : List Nat) (w wr : World) : Prop := IdAll E lit more w wr ∧ ∀ t : Nat, 22 ≤ t → t ≤ 46 → (⟨lit.toArray⟩ : ByteArray) ≠ kwS t
/-- Where the first loop ends. -/
def IdOne (E : Env) (p0 : List UInt8) (a more : List Nat) (d b : List Nat) (w wr : World) : Prop := IdTo E p0 a more d b w wr ∧ (b = [] ∨ ∃ c t, b = c :: t ∧ 128 ≤ c)
/-- What ident leaves. -/
def IdentPost (E : Env) (lit : List UInt8) (more : List Nat) (w : World) (e : Ending) (w' : World) : Prop :=
  e = .returned (.tuple #[]) ∧ TK E w w' ∧ ScanAt w' E lit more 0 [] ∧ w'.cell? ⟨E.c.sb, 18, none⟩ = some (.bool false) ∧ w'.cell? ⟨E.c.sb, 19, none⟩ = some (.int .u8 0) ∧
  ((∃ t : Nat, 22 ≤ t ∧ t ≤ 46 ∧ (⟨lit.toArray⟩ : ByteArray) = kwS t ∧ w'.cell? ⟨E.c.sb, 16, none⟩ = some (.int .u64 (t : Int)) ∧ w'.cell? ⟨E.c.sb, 17, none⟩ = some (.string ⟨#[]⟩)) ∨
   ((∀ t : Nat, 22 ≤ t → t ≤ 46 → (⟨lit.toArray⟩ : ByteArray) ≠ kwS t) ∧ w'.cell? ⟨E.c.sb, 16, none⟩ = some (.int .u64 2) ∧ w'.cell? ⟨E.c.sb, 17, none⟩ = some (.string ⟨lit.toArray⟩)))
theorem IdAll.bb {E : Env} {lit : List UInt8} {more : List Nat} {w wr : World} (h : IdAll E lit more w wr) : E.c.bb ≠ E.c.sb ∧ ∀ i, wr.frozen? ⟨E.c.sb, i, none⟩ = false := by
  obtain ⟨⟨s, hS, ha⟩, hF⟩ := h
  obtain ⟨-, -, cur, hR, -⟩ := hS.src
  exact ⟨hR.ok.1, hR.fs⟩
theorem conv_set {E : Env} {lit : List UInt8} {more : List Nat} {w wr : World} (h : IdAll E lit more w wr) (i : Nat) (v : Value) : Sem.run Tryd.prog (convert 41 9 (.slice (some ⟨E.c.bb, 0, none⟩) lit.length 4096)) (wr.setCell ⟨E.c.sb, i, none⟩ v) = .ok (.string ⟨lit.toArray⟩) (wr.setCell ⟨E.c.sb, i, none⟩ v) :=
  run_convert_bytes_back (P := Tryd.prog) _ 41 9 5 ⟨E.c.bb, 0, none⟩ 4096 lit Tryd.underlying41 Tryd.underlying5 Tryd.underlying9 fun j hj => by
    rw [← cells_all h j hj]
    refine World.cell?_setCell_other _ _ _ _ (fun e => h.bb.1 ?_)
    have := congrArg Addr.block e
    simp [Addr.add] at this
    split at this <;> exact this.symm
theorem of_toList {a : ByteArray} {l : List UInt8} (h : a.toList = l) : a = ⟨l.toArray⟩ := by
  subst h
  rw [ByteArray.toList_eq]
/-- A keyword's end. -/
theorem ident_kw {E : Env} {p0 lit : List UInt8} {more L : List Nat} {m : Int} {w wr : World} (H : OpenTo w E p0 L m) (h : IdAll E lit more w wr) {t : Nat} (h1 : 22 ≤ t) (h2 : t ≤ 46) (h3 : (⟨lit.toArray⟩ : ByteArray) = kwS t) (b : Bool) :
    IdentPost E lit more w (.returned (.tuple #[])) ((wr.setCell ⟨E.c.sb, 12, none⟩ (.bool b)).setCell ⟨E.c.sb, 16, none⟩ (.int .u64 (t : Int))) := by
  obtain ⟨⟨s, hS, ha⟩, hF⟩ := h
  have X : ∀ i, i ≠ 12 → i ≠ 16 → ((wr.setCell ⟨E.c.sb, 12, none⟩ (.bool b)).setCell ⟨E.c.sb, 16, none⟩ (.int .u64 (t : Int))).cell? ⟨E.c.sb, i, none⟩ = wr.cell? ⟨E.c.sb, i, none⟩ := fun i h1 h2 =>
    (World.cell?_setCell_other _ _ _ _ (fun e => h2 (congrArg Addr.off e).symm)).trans (World.cell?_setCell_other _ _ _ _ (fun e => h1 (congrArg Addr.off e).symm))
  obtain ⟨n16, h16⟩ := (H.tail.gf hF).c16
  refine ⟨rfl, (hF.tk.setCell hS.ok.p1 12 _).setCell hS.ok.p1 16 _, ⟨s, (hS.setTail 12 (by omega) _).setTail 16 (by omega) _, ha⟩, (X 18 (by omega) (by omega)).trans ((hF.tail 18 (by omega)).trans H.c18), (X 19 (by omega) (by omega)).trans ((hF.tail 19 (by omega)).trans H.c19), .inl ⟨t, h1, h2, h3, ?_, (X 17 (by omega) (by omega)).trans ((hF.tail 17 (by omega)).trans H.c17)⟩⟩
  refine World.cell?_setCell_same (u := .int .u64 n16) _ _ _ ?_
  rw [World.cell?_setCell_other _ _ _ _ (fun e => by have := congrArg Addr.off e; simp at this)]; exact h16
/-- A name's end. -/
theorem ident_name {E : Env} {p0 lit : List UInt8} {more L : List Nat} {m : Int} {w wr : World} (H : OpenTo w E p0 L m) (h : NameAt E lit more w wr) :
    IdentPost E lit more w (.returned (.tuple #[])) (((wr.setCell ⟨E.c.sb, 12, none⟩ (.bool true)).setCell ⟨E.c.sb, 17, none⟩ (.string ⟨lit.toArray⟩)).setCell ⟨E.c.sb, 16, none⟩ (.int .u64 2)) := by
  obtain ⟨⟨⟨s, hS, ha⟩, hF⟩, hno⟩ := h
  have X : ∀ i, i ≠ 12 → i ≠ 16 → i ≠ 17 → (((wr.setCell ⟨E.c.sb, 12, none⟩ (.bool true)).setCell ⟨E.c.sb, 17, none⟩ (.string ⟨lit.toArray⟩)).setCell ⟨E.c.sb, 16, none⟩ (.int .u64 2)).cell? ⟨E.c.sb, i, none⟩ = wr.cell? ⟨E.c.sb, i, none⟩ := fun i h1 h2 h3 =>
    (World.cell?_setCell_other _ _ _ _ (fun e => h2 (congrArg Addr.off e).symm)).trans ((World.cell?_setCell_other _ _ _ _ (fun e => h3 (congrArg Addr.off e).symm)).trans (World.cell?_setCell_other wr _ _ _ (fun e => h1 (congrArg Addr.off e).symm)))
  obtain ⟨n16, h16⟩ := (H.tail.gf hF).c16
  obtain ⟨s17, h17⟩ := (H.tail.gf hF).c17
  refine ⟨rfl, ((hF.tk.setCell hS.ok.p1 12 _).setCell hS.ok.p1 17 _).setCell hS.ok.p1 16 _, ⟨s, ((hS.setTail 12 (by omega) _).setTail 17 (by omega) _).setTail 16 (by omega) _, ha⟩, (X 18 (by omega) (by omega) (by omega)).trans ((hF.tail 18 (by omega)).trans H.c18), (X 19 (by omega) (by omega) (by omega)).trans ((hF.tail 19 (by omega)).trans H.c19), .inr ⟨hno, ?_, ?_⟩⟩
  · refine World.cell?_setCell_same (u := .int .u64 n16) _ _ _ ?_
    refine (World.cell?_setCell_other _ _ _ _ (fun e => by have := congrArg Addr.off e; simp at this)).trans ?_
    exact (World.cell?_setCell_other wr _ _ _ (fun e => by have := congrArg Addr.off e; simp at this)).trans h16
  · refine (World.cell?_setCell_other _ _ _ _ (fun e => by have := congrArg Addr.off e; simp at this)).trans ?_
    refine World.cell?_setCell_same (u := .string s17) _ _ _ ?_
    exact (World.cell?_setCell_other wr _ _ _ (fun e => by have := congrArg Addr.off e; simp at this)).trans h17

set_option maxRecDepth 100000 in
set_option maxHeartbeats 4000000 in
theorem ident_calls (E : Env) (p0 : List UInt8) (a more : List Nat) (m : Int) (w : World) (h : OpenTo w E p0 (a ++ more) m) (hT : ∀ w', GF E w w' → Tabs w') (hz : 12 ≤ w.heap.size) (ha : ∀ c ∈ a, idc c = true ∧ c < 1114112) (hm : Bhd more) :
    Calls Tryd.prog 70 #[.pointer (some ⟨E.c.sb, 0, none⟩)] w (IdentPost E (p0 ++ encs a) more w) := by
  have H := Lib.hid h
  have HT := Lib.hid hT
  have HA := Lib.hid ha
  have HM := Lib.hid hm
  have H0 : Hid (IdTo E p0 a more [] a w w) := ⟨rfl, ⟨[], rfl, by have := h.at_; simpa [encs, cellsU] using this⟩, GF.refl E w⟩
  clear h hT ha hm
  go_enter Tryd.func70, Tryd.ntmps70
  go_upto_block 0 with fail
  go_cut [] (fun wx => ∃ d b, Hid (IdOne E p0 a more d b w wx))
  case first =>
    go_wp2_with fail
    go_loopg [] a.length (fun g wr => ∃ d b, g = b.length ∧ Hid (IdTo E p0 a more d b w wr))
    case atStart => exact ⟨[], a, rfl, H0.out⟩
    case round =>
      obtain ⟨d, b, rfl, hI⟩ := hrel
      have h9 := hI.out.2.1.ch
      cases b with
      | nil =>
        rw [List.nil_append] at h9
        have hex : Hid (IdOne E p0 a more d [] w wr) := ⟨hI.out, .inl rfl⟩
        have HM2 := HM
        cases more with
        | nil =>
          simp only [chOf] at h9
          as_aux_lemma =>
            go_wp2_with (first | (go_at_call 99; refine (isLet_end _).mono ?_; rintro e w1 ⟨rfl, rfl⟩) | (go_at_call 100; refine (isDecimal_no (-1) _ (.inl (by omega))).mono ?_; rintro e w1 ⟨rfl, rfl⟩))
            go_meet
            case rel => exact ⟨_, _, hex⟩
        | cons c t =>
          simp only [chOf] at h9
          obtain ⟨hc1, hc2⟩ := HM.out c t rfl
          unfold aId at hc2
          simp only [Bool.or_eq_false_iff, decide_eq_false_iff_not] at hc2
          have hcl := Lib.hid hc2.1
          have hcd : (c : Int) < 48 ∨ 57 < (c : Int) := by omega
          have hcb : c < 2147483648 := by omega
          have HCD := Lib.hid hcd
          clear hc2 hcd
          as_aux_lemma =>
            go_wp2_with (first | (go_at_call 99; refine (isLet_no c _ hcb hcl.out).mono ?_; rintro e w1 ⟨rfl, rfl⟩) | (go_at_call 100; refine (isDecimal_no _ _ HCD.out).mono ?_; rintro e w1 ⟨rfl, rfl⟩))
            go_meet
            case rel => exact ⟨_, _, hex⟩
      | cons c b =>
        rw [List.cons_append] at h9
        simp only [chOf] at h9
        have hcb : c < 2147483648 := by
          have := (HA.out c (by rw [hI.out.1]; simp)).2
          omega
        have hnx : Hid (∀ w', SA w' E (p0 ++ encs d ++ enc c) (b ++ more) 0 → GF E wr w' → IdTo E p0 a more (d ++ [c]) b w w') := fun w' h1 h2 => idTo_next hI.out h1 h2
        have hS := hI.out.2.1
        rw [List.cons_append] at hS
        have HS := Lib.hid hS
        clear hS
        by_cases hl : aLet c = true
        · have HL := Lib.hid hl
          clear hl
          go_wp2_with (first | (go_at_call 99; refine (isLet_yes c _ hcb HL.out).mono ?_; rintro e w1 ⟨rfl, rfl⟩) | (go_at_call 57; refine (next_sa E _ c (b ++ more) 0 _ HS.out).mono ?_; rintro en w3 ⟨rfl, hS3, hF3⟩; have H3 := Lib.hid (hnx.out w3 hS3 hF3); clear hS3 hF3))
          go_roundg b.length
          case measure => simp
          case rel => exact ⟨_, _, rfl, H3.out⟩
        · have HL : Hid (aLet c = false) := by show _ = _; simpa using hl
          clear hl
          by_cases hd : 48 ≤ c ∧ c ≤ 57
          · have g1 : (48 : Int) ≤ (c : Int) := by omega
            have g2 : (c : Int) ≤ 57 := by omega
            clear hd
            go_wp2_with (first | (go_at_call 99; refine (isLet_no c _ hcb HL.out).mono ?_; rintro e w1 ⟨rfl, rfl⟩) | (go_at_call 100; refine (isDecimal_yes _ _ g1 g2).mono ?_; rintro e w1 ⟨rfl, rfl⟩) | (go_at_call 57; refine (next_sa E _ c (b ++ more) 0 _ HS.out).mono ?_; rintro en w3 ⟨rfl, hS3, hF3⟩; have H3 := Lib.hid (hnx.out w3 hS3 hF3); clear hS3 hF3))
            go_roundg b.length
            case measure => simp
            case rel => exact ⟨_, _, rfl, H3.out⟩
          · have hcd : Hid ((c : Int) < 48 ∨ 57 < (c : Int)) := by show _ ∨ _; omega
            have hex : Hid (IdOne E p0 a more d (c :: b) w wr) := by
              refine ⟨hI.out, .inr ⟨c, b, rfl, ?_⟩⟩
              rcases Nat.lt_or_ge c 128 with h | h
              · have h1 := aId_small ⟨c, h⟩
                simp only at h1
                rw [(HA.out c (by rw [hI.out.1]; simp)).1] at h1
                unfold aId at h1
                rw [HL.out] at h1
                simp at h1; omega
              · exact h
            clear hd
            as_aux_lemma =>
              go_wp2_with (first | (go_at_call 99; refine (isLet_no c _ hcb HL.out).mono ?_; rintro e w1 ⟨rfl, rfl⟩) | (go_at_call 100; refine (isDecimal_no _ _ hcd.out).mono ?_; rintro e w1 ⟨rfl, rfl⟩))
              go_meet
              case rel => exact ⟨_, _, hex⟩
  case rest =>
    obtain ⟨d, b, hI⟩ := hcut
    clear H0
    have hwc : Hid (12 ≤ wc.heap.size) := Nat.le_trans hz hI.out.1.2.2.size
    have h9 := hI.out.1.2.1.ch
    have hTc : Hid (Tabs wc) := HT.out _ hI.out.1.2.2
    go_step
    go_step
    go_cut [] (fun wx => Hid (IdAll E (p0 ++ encs a) more w wx))
    case first =>
      rcases hI.out.2 with rfl | ⟨c, t, rfl, hc⟩
      · have hA : Hid (IdAll E (p0 ++ encs a) more w wc) := IdAll.of hI.out.1
        have hch : chOf more < 128 := by
          cases more with
          | nil => decide
          | cons c t => have := (HM.out c t rfl).1; simp only [chOf]; omega
        rw [List.nil_append] at h9
        have tch : decide ((128 : Int) ≤ chOf more) = false := by simp; omega
        clear hch
        as_aux_lemma =>
          go_wp2_with fail
          go_meet
          case rel => exact hA
      · have h9' := h9
        rw [List.cons_append] at h9'
        simp only [chOf] at h9'
        have tch : (128 : Int) ≤ (c : Int) := by omega
        have H1 : Hid (IdTo E p0 a more d (c :: t) w wc) := hI.out.1
        have hlen : Hid ((c :: t).length ≤ a.length) := by show _ ≤ _; rw [hI.out.1.1]; simp
        clear h9 hc hI
        go_wp2_with fail
        go_loopg [] (c :: t).length (fun g wr => ∃ d b, g = b.length ∧ Hid (IdTo E p0 a more d b w wr))
        case atStart => exact ⟨d, c :: t, rfl, H1.out⟩
        case round =>
          obtain ⟨d2, b2, rfl, hI2⟩ := hrel
          have hT2 : Hid (Tabs wr) := HT.out _ hI2.out.2.2
          have hz2 : Hid (12 ≤ wr.heap.size) := Nat.le_trans hz hI2.out.2.2.size
          cases b2 with
          | nil =>
            have hS := hI2.out.2.1
            rw [List.nil_append] at hS
            have HS := Lib.hid hS
            clear hS
            as_aux_lemma =>
              go_wp2_with (go_at_call 101; refine (atIdent_no E _ more 0 _ HS.out hT2.out hz2.out HM.out).mono ?_; rintro e w1 ⟨rfl, hB⟩; have hA : Hid (IdAll E (p0 ++ encs a) more w w1) := (IdAll.of hI2.out).below hB; clear hB)
              go_meet
              case rel => exact hA
          | cons x b2 =>
            have hS := hI2.out.2.1
            rw [List.cons_append] at hS
            have HS := Lib.hid hS
            have hx : Hid (idc x = true ∧ x < 1114112) := HA.out x (by rw [hI2.out.1]; simp)
            clear hS
            go_wp2_with fail
            go_at_call 101
            refine (atIdent_yes E _ x (b2 ++ more) 0 _ HS.out hT2.out hz2.out hx.out.2 hx.out.1).mono ?_
            rintro e w1 ⟨rfl, hB⟩
            have HS1 := Lib.hid (HS.out.below hB).1
            have hI3 : Hid (IdTo E p0 a more d2 (x :: b2) w w1) := idTo_below hI2.out hB
            clear hB
            go_wp2_with (go_at_call 57; refine (next_sa E _ x (b2 ++ more) 0 _ HS1.out).mono ?_; rintro en w3 ⟨rfl, hS3, hF3⟩; have H3 := Lib.hid (idTo_next hI3.out hS3 hF3); clear hS3 hF3)
            go_roundg b2.length
            case measure => simp
            case rel => exact ⟨_, _, rfl, H3.out⟩
    case rest =>
      rename_i wl
      have hA := hcut
      clear hcut hI h9 hTc hwc HA HM
      obtain ⟨lit, hlit⟩ : ∃ lit, p0 ++ encs a = lit := ⟨_, rfl⟩
      have HLIT := Lib.hid hlit
      rw [hlit] at hA
      clear hlit
      have hl2 : Hid (lit.length ≤ 2000) := by
        obtain ⟨⟨s, hS, ha⟩, -⟩ := hA.out
        obtain ⟨bd, -, cur, -, -, -, hact⟩ := hS.src
        have h1 := (hact ha.act).1
        have h2 := bd.b1
        rw [h1, ha.all] at h2
        show _ ≤ _
        simp at h2; omega
      go_step
      go_step
      go_cut [2] (fun s2 wx => s2 = .slice (some ⟨E.c.bb, 0, none⟩) lit.length 4096 ∧ Hid (IdAll E lit more w wx))
      case first =>
        as_aux_lemma =>
          go_wp2_with (go_at_call 87; refine (seg_all E lit more w _ hA.out).mono ?_; rintro e w5 ⟨rfl, k5, rfl⟩)
          go_meet
          case rel => exact ⟨rfl, hA.out.drewN _⟩
      case rest =>
        obtain ⟨rfl, hA6⟩ := hcut
        clear hA
        generalize wc = w6 at hA6 ⊢
        go_step
        go_step
        go_cut [2] (fun s2 wx => s2 = .slice (some ⟨E.c.bb, 0, none⟩) lit.length 4096 ∧ Hid (NameAt E lit more w wx))
        case first =>
          by_cases hl : 2 ≤ lit.length
          · have tl : (2 : Int) ≤ (lit.length : Int) := by omega
            have HL := Lib.hid hl
            clear hl
            go_wp2_with fail
            go_at_call 103
            refine (hash_all hA6.out HL.out (by have := hl2.out; omega)).mono ?_
            rintro e w7 ⟨rfl, k7, rfl⟩
            have hT7 : Hid (Tabs (w6.drewN k7)) := HT.out _ (hA6.out.drewN k7).2
            have hz7 : Hid (12 ≤ (w6.drewN k7).heap.size) := Nat.le_trans hz hA6.out.2.size
            go_wp2_with fail
            go_at_call 102
            refine (keywordOf_calls _ _ hT7.out hz7.out).mono ?_
            rintro e w8 ⟨⟨t, rfl, ht⟩, hB8⟩
            have hA8 : Hid (IdAll E lit more w w8) := (hA6.out.drewN k7).below hB8
            clear hB8
            rcases ht with ⟨rfl, hno⟩ | ⟨h1, h2, h3⟩
            · have hN : Hid (∀ q, NameAt E lit more w (w8.drewN q)) := fun q => ⟨hA8.out.drewN q, fun t h1 h2 e => hno t h1 (by omega) (by rw [← e])⟩
              have e0 : ((0 : Nat) : Int) = 0 := rfl
              rw [e0]
              clear hno e0
              go_wp2_with fail
              go_quiet (fail)
              go_wp2_with fail
              go_meet
              case rel => exact ⟨rfl, hN.out _⟩
            · have tne : ((t : Int) != 0) = true := by simp; omega
              have t22 : (22 : Int) ≤ (t : Int) := by omega
              have t46 : (t : Int) ≤ 46 := by omega
              have hT8 : Hid (∀ q, Tabs (w8.drewN q)) := fun q => HT.out _ (hA8.out.drewN q).2
              have hconv : ∀ q, Sem.run Tryd.prog (convert 41 9 (.slice (some ⟨E.c.bb, 0, none⟩) lit.length 4096)) (w8.drewN q) = .ok (.string ⟨lit.toArray⟩) (w8.drewN q) := fun q => conv_all (hA8.out.drewN q)
              have H3 := Lib.hid h3
              clear h3
              by_cases hq : (kwS t).toList = lit
              · have tq : ((kwS t).toList == lit) = true := by simp [hq]
                have HQ := Lib.hid (of_toList hq)
                clear hq
                go_wp2_with fail
                go_quiet ((go_at_call 104; exact Calls.quiet_of (tokStr_calls t _ (hT8.out _) (.inr (by omega)) (by omega) t46)))
                have hz8 : Hid (∀ q, 12 ≤ (w8.drewN q).heap.size) := fun q => Nat.le_trans hz hA8.out.2.size
                obtain ⟨b12, h12⟩ := (H.out.tail.gf hA8.out.2).c12
                obtain ⟨n16, h16⟩ := (H.out.tail.gf hA8.out.2).c16
                have fz12 := hA8.out.bb.2 12
                have fz16 := hA8.out.bb.2 16
                go_wp2_with (go_at_call 105; refine (contains_calls _ t _ t22 t46).mono ?_; rintro e w9 ⟨⟨b9, rfl⟩, rfl⟩)
                go_end0
                rw [HLIT.out]
                exact ident_kw H.out (hA8.out.drewN _) (by omega) (by omega) HQ.out.symm b9
              · have tq : ((kwS t).toList == lit) = false := by simp [hq]
                have hN : Hid (∀ q, NameAt E lit more w (w8.drewN q)) := fun q => ⟨hA8.out.drewN q, fun u h4 h5 e => by
                  have : t = u := kw_inj (by omega) (by omega) h4 h5 (by rw [← e]; exact H3.out)
                  subst this
                  exact hq (by rw [← e, ByteArray.toList_eq])⟩
                clear hq
                go_wp2_with fail
                go_quiet ((go_at_call 104; exact Calls.quiet_of (tokStr_calls t _ (hT8.out _) (.inr (by omega)) (by omega) t46)))
                go_wp2_with fail
                go_meet
                case rel => exact ⟨rfl, hN.out _⟩
          · have tl : decide ((2 : Int) ≤ (lit.length : Int)) = false := by simp; omega
            have hN : Hid (NameAt E lit more w w6) := ⟨hA6.out, fun t h1 h2 e => by
              have h3 := (kw_size h1 h2).1
              rw [← e] at h3
              have hz : (⟨lit.toArray⟩ : ByteArray).size = lit.length := by show lit.toArray.size = _; simp
              omega⟩
            clear hl
            as_aux_lemma =>
              go_wp2_with fail
              go_meet
              case rel => exact ⟨rfl, hN⟩
        case rest =>
          obtain ⟨rfl, hN⟩ := hcut
          have hbb := hN.out.1.bb
          have hfz := hbb.2
          obtain ⟨b12, h12⟩ := (H.out.tail.gf hN.out.1.2).c12
          obtain ⟨n16, h16⟩ := (H.out.tail.gf hN.out.1.2).c16
          obtain ⟨s17, h17⟩ := (H.out.tail.gf hN.out.1.2).c17
          have hconv := fun v => conv_set hN.out.1 12 v
          have fz12 := hfz 12
          have fz16 := hfz 16
          have fz17 := hfz 17
          clear hbb hfz
          go_wp2_with fail
          go_end0
          rw [HLIT.out]
          exact ident_name H.out hN.out
end Go.Proofs.YtnehkpoggkfikaaDoor
