/-
  The plain part of the statement on bad numbers: what the number's reader gives at its texts; the texts as strings. Conditions: each law's own.
  The statement on bad numbers, walked. Conditions: each law's own.
-/
import Derived.Test.YtnehkpoggkfikaaDoorMNumL
import Derived.Deep.DeepCutAuto
namespace Go.Proofs.YtnehkpoggkfikaaDoor
open Go.RowKit
set_option linter.unusedVariables false

theorem one_told {w : World} {B k : Nat} {v : Value} {ns l' : List Note} (hn : ns.length = k) (htx : l'.map (·.2.2) = ns.map (·.2.2)) (h : w.ownsRow B 36 3 v l'.length (cellsI l')) : ∃ a c, v = .slice a k c := by
  have e : l'.length = k := by have := congrArg List.length htx; simpa [hn] using this
  rw [e] at h
  exact ownsRow_slice h
theorem toN_mk (l : List UInt8) : toN ⟨l.toArray⟩ = l.map (·.toNat) := rfl
theorem asc_toN {l : List Nat} (h : ∀ c ∈ l, Asc c) : toN ⟨(encs l).toArray⟩ = l := by
  rw [toN_mk, asc_encs h, List.map_map]
  conv => rhs; rw [← List.map_id l]
  apply List.map_congr_left
  intro c hc
  have := h c hc
  unfold Asc at this
  simp; omega
/-- At a bad number an error is told. -/
theorem num_bad {l : List Nat} (hA : ∀ c ∈ l, Asc c) (h : NumBad l) {lit : ByteArray} {kind : Int} {bad : Bool} {ch : Int} {ns : List Note} (hI : NumIs [] false l lit kind bad ch ns) : bad = true ∧ ns.length = 1 := by
  obtain ⟨h1, h2, h3, z, h4, h5, h6⟩ := hI
  have go : ((numF 0 false l).ok && !(decide ((numF 0 false l).kind = 0) && decide (0 ≤ (numF 0 false l).inv))) = false → bad = true ∧ ns.length = 1 := by
    intro e
    simp only [List.length_nil] at h5 h6
    rw [e] at h5 h6
    exact ⟨h5, h6⟩
  cases hok : ((numF 0 false l).ok && !(decide ((numF 0 false l).kind = 0) && decide (0 ≤ (numF 0 false l).inv))) with
  | false => exact go hok
  | true =>
    rcases h with h | ⟨hs, d, r, e, hr⟩
    · exfalso
      unfold numBadB at h
      revert h hok
      cases (numF 0 false l).ok <;> cases (decide ((numF 0 false l).kind = 0) && decide (0 ≤ (numF 0 false l).inv)) <;> simp
    · simp only [List.length_nil, List.nil_append] at h1 h4 h5 h6
      have hT : ∀ c ∈ l.take (numF 0 false l).k, Asc c := fun c hc => hA c (List.mem_of_mem_take hc)
      have en : toN lit = l.take (numF 0 false l).k := by rw [h1]; exact asc_toN hT
      have hz : lit.size = (l.take (numF 0 false l).k).length := by rw [← en, toN_len]
      have hA2 := h4 hok hs
      rcases hA2 with ⟨hp, _⟩ | ⟨_, j, rfl, _⟩
      · exact absurd hp (not_parted hz (byteAt_toN en) e hr _ _)
      · rw [hok, hs] at h5 h6
        have : decide ((0 : Int) ≤ (j : Int)) = true := by simp
        rw [this] at h5 h6
        exact ⟨h5, h6⟩
theorem oct4_asc {d : List Nat} (h : Oct4 d) : (∀ c ∈ d, Asc c) ∧ d.length = 4 := by
  obtain ⟨a, b, c, e, rfl, ha, hb, hc, he⟩ := h
  refine ⟨?_, rfl⟩
  intro x hx
  simp only [List.mem_cons, List.not_mem_nil, or_false] at hx
  rcases hx with rfl | rfl | rfl | rfl <;> exact ⟨by omega, by omega⟩
theorem bits_asc (k : Nat) : (∀ c ∈ bitsL k, Asc c) ∧ (bitsL k).length ≤ 10 := by
  refine ⟨?_, by unfold bitsL; simp; omega⟩
  intro c hc
  have := List.mem_of_mem_take hc
  simp only [List.mem_cons, List.not_mem_nil, or_false] at this
  unfold Asc; omega
theorem tails5_asc {t : List Nat} (h : t ∈ tails5) : (∀ c ∈ t, Asc c) ∧ t.length ≤ 1 := by
  simp only [tails5, List.mem_cons, List.not_mem_nil, or_false] at h
  unfold Asc
  rcases h with rfl | rfl | rfl | rfl | rfl <;> simp
theorem badAll_asc {d : List Nat} (h : Oct4 d) {k : Nat} {x : List Nat} (hx : x ∈ badAll d k) : (∀ c ∈ x, Asc c) ∧ x.length ≤ 20 ∧ x ≠ [] := by
  obtain ⟨hd, hl⟩ := oct4_asc h
  obtain ⟨hb, hbl⟩ := bits_asc k
  simp only [badAll, List.mem_cons, List.not_mem_nil, or_false] at hx
  unfold Asc at *
  rcases hx with rfl | rfl | rfl | rfl | rfl | rfl | rfl | rfl | rfl | rfl | rfl | rfl | rfl | rfl | rfl | rfl | rfl | rfl | rfl | rfl | rfl | rfl | rfl
  all_goals
    refine ⟨?_, by simp <;> omega, by simp⟩
    intro c hc
    simp only [List.mem_append, List.mem_cons, List.not_mem_nil, or_false] at hc
    first
      | omega
      | (rcases hc with hc | hc <;> first | omega | exact hd c hc | exact hb c hc)
      | (rcases hc with (hc | hc) | hc <;> first | omega | exact hd c hc | exact hb c hc)
      | (rcases hc with ((hc | hc) | hc) | hc <;> first | omega | exact hd c hc | exact hb c hc)
/-- The texts of the statement, as a row of strings at place b. -/
def BadRow (w : World) (b : Nat) (d : List Nat) (k : Nat) : Prop := ∀ j, j < 23 → ∃ s x, x ∈ badAll d k ∧ toN s = x ∧ w.cell? ⟨b, j, none⟩ = some (.string s)
theorem badRow_of {w : World} {b : Nat} {d : List Nat} {k : Nat} {L : List ByteArray} {t : TypeId} {fz : Nat × Nat} (hw : w.heap[b]? = some (.cells (L.map Value.string).toArray t fz)) (e : L.map toN = badAll d k) : BadRow w b d k := by
  intro j hj
  have hl : L.length = 23 := by have := congrArg List.length e; simpa [badAll] using this
  refine ⟨L[j], toN L[j], ?_, rfl, ?_⟩
  · rw [← e]; exact List.mem_map_of_mem (List.getElem_mem _)
  · unfold World.cell?
    rw [hw]
    simp [hj, hl]
theorem BadRow.mono {w w' : World} {b : Nat} {d : List Nat} {k : Nat} (h : BadRow w b d k) (hb : b < w.heap.size) (hB : Below w.heap.size w w') : BadRow w' b d k := fun j hj => by
  obtain ⟨s, x, h1, h2, h3⟩ := h j hj
  exact ⟨s, x, h1, h2, by rw [hB.cell (p := ⟨b, j, none⟩) hb]; exact h3⟩
theorem toN_append (a b : ByteArray) : toN (a ++ b) = toN a ++ toN b := by unfold toN; simp
/-- Digits of eight as a string. -/
def OctS (d : ByteArray) (k : Nat) : Prop := d.size = k ∧ ∀ u ∈ d.data.toList, 48 ≤ u.toNat ∧ u.toNat ≤ 55
theorem octS_nil : OctS ⟨#[]⟩ 0 := ⟨rfl, fun u hu => by simp at hu⟩
theorem octS_snoc {d : ByteArray} {k : Nat} (h : OctS d k) {u : UInt8} (hu : 48 ≤ u.toNat ∧ u.toNat ≤ 55) : OctS (d ++ ⟨#[u]⟩) (k + 1) := by
  refine ⟨by rw [ByteArray.size_append, h.1]; rfl, fun x hx => ?_⟩
  simp only [ByteArray.data_append, Array.toList_append, List.mem_append] at hx
  rcases hx with hx | hx
  · exact h.2 x hx
  · simp at hx; subst hx; exact hu
theorem octS_4 {d : ByteArray} (h : OctS d 4) : Oct4 (toN d) := by
  have hl : d.data.toList.length = 4 := h.1
  obtain ⟨h1, h2⟩ := h
  unfold toN
  revert hl h2
  cases d.data.toList with
  | nil => intro h; simp at h
  | cons a l => cases l with
    | nil => intro h; simp at h
    | cons b l => cases l with
      | nil => intro h; simp at h
      | cons c l => cases l with
        | nil => intro h; simp at h
        | cons e l => cases l with
          | nil => intro _ h; exact ⟨_, _, _, _, rfl, h a (by simp), h b (by simp), h c (by simp), h e (by simp)⟩
          | cons f l => intro h; simp at h
/-- What the statement hands to the reader. -/
theorem bad_src {d : List Nat} (h : Oct4 d) {k : Nat} (hk : k < 9) {s : ByteArray} (hx : toN s ∈ badAll d k) {t : List Nat} (ht : t ∈ tails5) : ∃ x l, (okAll (x :: l) ∧ ((s ++ ⟨(encs t).toArray⟩ : ByteArray).data.toList = encs (x :: l)) ∧ ((s ++ ⟨(encs t).toArray⟩ : ByteArray).size : Int) ≤ 1900) ∧
    (∀ lit kind bad ch ns, NumIs [] false (x :: l) lit kind bad ch ns → bad = true ∧ ns.length = 1) ∧ s.size ≤ 20 ∧ (encs t).length ≤ 1 := by
  obtain ⟨hA, hl, hne⟩ := badAll_asc h hx
  obtain ⟨hT, htl⟩ := tails5_asc ht
  obtain ⟨x, l, e⟩ : ∃ x l, toN s ++ t = x :: l := by
    cases hs : toN s with
    | nil => exact absurd hs hne
    | cons x l => exact ⟨x, l ++ t, rfl⟩
  have hAll : ∀ c ∈ x :: l, Asc c := by
    rw [← e]
    intro c hc
    rcases List.mem_append.1 hc with hc | hc
    · exact hA c hc
    · exact hT c hc
  have hz := toN_len s
  have he : (encs t).length = t.length := by rw [asc_encs hT]; simp
  refine ⟨x, l, ⟨asc_ok hAll, ?_, ?_⟩, fun lit kind bad ch ns hI => num_bad hAll ?_ hI, by omega, by omega⟩
  · rw [← e, encs_append, ← toN_encs hA]
    simp only [ByteArray.data_append, Array.toList_append]
  · simp only [ByteArray.size_append]
    have h2 : (⟨(encs t).toArray⟩ : ByteArray).size = (encs t).length := by show (encs t).toArray.size = _; simp
    rw [h2]; omega
  · rw [← e]; exact bad_all h hk _ hx _ ht
end Go.Proofs.YtnehkpoggkfikaaDoor

namespace Go.Proofs.YtnehkpoggkfikaaDoor
open Go.RowKit
set_option linter.unusedVariables false

theorem oct_u8 (z : Int) (h0 : 0 ≤ z) (h1 : z < 8) : 48 ≤ ((48 + z).toNat.toUInt8).toNat ∧ ((48 + z).toNat.toUInt8).toNat ≤ 55 := by
  have : ((48 + z).toNat.toUInt8).toNat = (48 + z).toNat := by simp; omega
  rw [this]; omega
theorem one_back (W : World) (z : Int) (h0 : 0 ≤ z) (h1 : z < 8) : (convert 41 9 (.slice (some ⟨W.heap.size, 0, none⟩) 1 1)).run Tryd.prog (W.alloc (.cells #[.int .u8 (48 + z)] 5)) = .ok (.string ⟨#[(48 + z).toNat.toUInt8]⟩) (W.alloc (.cells #[.int .u8 (48 + z)] 5)) := by
  refine run_convert_bytes_back (P := Tryd.prog) _ 41 9 5 ⟨W.heap.size, 0, none⟩ 1 [(48 + z).toNat.toUInt8] Tryd.underlying41 Tryd.underlying5 Tryd.underlying9 ?_
  intro j hj
  obtain rfl : j = 0 := by simpa using hj
  have e : (((48 + z).toNat.toUInt8).toNat : Int) = 48 + z := by simp; omega
  unfold World.cell?
  show (match (W.alloc (.cells #[.int .u8 (48 + z)] 5)).heap[W.heap.size]? with | some (.cells cs ..) => cs[0 + 0]? | _ => none) = _
  rw [(MapKept.heap_alloc W _).1]
  simp only [List.getElem_cons_zero]
  rw [e]; rfl
theorem bits_ext (z : Int) (h0 : 0 ≤ z) (h1 : z < 9) : toN ((⟨#[49, 49, 49, 48, 49, 49, 48, 49, 48, 49]⟩ : ByteArray).extract 0 (1 + z).toNat) = bitsL z.toNat ∧ ((⟨#[49, 49, 49, 48, 49, 49, 48, 49, 48, 49]⟩ : ByteArray).extract 0 (1 + z).toNat).size ≤ 10 := by
  rcases (by omega : z = 0 ∨ z = 1 ∨ z = 2 ∨ z = 3 ∨ z = 4 ∨ z = 5 ∨ z = 6 ∨ z = 7 ∨ z = 8) with rfl | rfl | rfl | rfl | rfl | rfl | rfl | rfl | rfl
  all_goals decide +kernel
def badStr (d B : ByteArray) : List ByteArray :=
  [⟨#[48, 120]⟩, ⟨#[48, 88]⟩, ⟨#[48, 98]⟩, ⟨#[48, 111]⟩, ⟨#[48, 98]⟩ ++ B ++ ⟨#[50]⟩, ⟨#[48, 98]⟩ ++ B ++ ⟨#[57]⟩, ⟨#[48, 111]⟩ ++ d ++ ⟨#[56]⟩, ⟨#[48]⟩ ++ d ++ ⟨#[57]⟩, ⟨#[48, 95]⟩ ++ d ++ ⟨#[56]⟩, ⟨#[49]⟩ ++ d ++ ⟨#[101]⟩, ⟨#[49]⟩ ++ d ++ ⟨#[101, 43]⟩, ⟨#[49, 46]⟩ ++ d ++ ⟨#[101, 45]⟩,
   ⟨#[49]⟩ ++ d ++ ⟨#[95]⟩, ⟨#[49, 95, 95]⟩ ++ d, ⟨#[48, 120]⟩ ++ d ++ ⟨#[95]⟩, ⟨#[48, 120, 95]⟩, ⟨#[48, 120]⟩ ++ d ++ ⟨#[112]⟩, ⟨#[48, 120]⟩ ++ d ++ ⟨#[46, 56]⟩, ⟨#[49]⟩ ++ d ++ ⟨#[112, 51]⟩, ⟨#[48, 98]⟩ ++ B ++ ⟨#[46, 48]⟩, ⟨#[48, 98]⟩ ++ B ++ ⟨#[101, 49]⟩, ⟨#[48, 111]⟩ ++ d ++ ⟨#[46]⟩ ++ d, ⟨#[48, 120, 46, 112, 49]⟩]
theorem badStr_ok (d B : ByteArray) (k : Nat) (h : toN B = bitsL k) : (badStr d B).map toN = badAll (toN d) k := by
  unfold badStr badAll
  simp only [List.map, toN_append, h]
  rfl
/-- The row that the statement builds. -/
def RowAt (w : World) (b : Nat) (d : List Nat) (k : Nat) (w0 : World) : Prop := b < w.heap.size ∧ BadRow w b d k ∧ Below w0.heap.size w0 w
theorem rowAt_mk {w0 w : World} {d B : ByteArray} {k : Nat} {t : TypeId} (h : toN B = bitsL k) (hb : Below w0.heap.size w0 w) : RowAt (w.alloc (.cells ((badStr d B).map Value.string).toArray t)) w.heap.size (toN d) k w0 := by
  refine ⟨by simp, badRow_of (L := badStr d B) (t := t) (fz := (0, 0)) ?_ (badStr_ok d B k h), hb.alloc hb.size _⟩
  rw [(MapKept.heap_alloc w _).1]

theorem rowAt_alloc {w0 w : World} {b : Nat} {d : List Nat} {k : Nat} (h : RowAt w b d k w0) (o : Obj) : RowAt (w.alloc o) b d k w0 :=
  ⟨by have := h.1; simp; omega, h.2.1.mono h.1 ((Below.refl _ _).alloc (Nat.le_refl _) o), h.2.2.alloc h.2.2.size o⟩
set_option maxRecDepth 100000 in
set_option maxHeartbeats 8000000 in
theorem fnBad_calls (n kind tail : Int) (ea : Addr) (w : World) (n0 : 0 ≤ n) (n1 : n < 4294967296) (k0 : 0 ≤ kind) (k1 : kind < 256) (t0 : 0 ≤ tail) (t1 : tail < 256) (hG : Glob w ea) (hw : 12 ≤ w.heap.size) :
    Calls Tryd.prog 12 #[.int .u32 n, .int .u8 kind, .int .u8 tail] w fun e w' => e = .returned (.bool true) ∧ Below w.heap.size w w' := by
  have HG := Lib.hid hG
  have HB0 := Lib.hid (Below.refl w.heap.size w)
  clear hG
  go_enter Tryd.func12, Tryd.ntmps12
  go_wp2_with fail
  go_loopw [7, 8] (fun v i wr => ∃ (k : Nat) (d : ByteArray), k ≤ 4 ∧ i = .int .i64 k ∧ v = .string d ∧ Hid (OctS d k ∧ Below w.heap.size w wr)) (fun _ i _ => 4 - (intOf i).toNat)
  case atStart => exact ⟨0, _, by omega, rfl, rfl, octS_nil, HB0.out⟩
  case round =>
    obtain ⟨k, d, hk, rfl, rfl, hd⟩ := hrel
    by_cases hlt : k < 4
    · have hsz : d.size ≤ 4 := by have := hd.out.1.1; omega
      have hnx : Hid (∀ (z : Int), 0 ≤ z → z < 8 → OctS (d ++ ⟨#[(48 + z).toNat.toUInt8]⟩) (k + 1) ∧ Below w.heap.size w (wr.alloc (.cells #[.int .u8 (48 + z)] 5))) := fun z h0 h1 => ⟨octS_snoc hd.out.1 (oct_u8 z h0 h1), hd.out.2.alloc hd.out.2.size _⟩
      rcases (by omega : k = 0 ∨ k = 1 ∨ k = 2 ∨ k = 3) with rfl | rfl | rfl | rfl
      · have hcv := one_back wr (n % 8) (by omega) (by omega)
        as_aux_lemma =>
          go_wp2_with fail
          go_roundw
          case rel => exact ⟨1, _, by omega, rfl, rfl, hnx.out _ (by omega) (by omega)⟩
          case measure => simp [intOf]
      · have hcv := one_back wr (n / 256 % 8) (by omega) (by omega)
        as_aux_lemma =>
          go_wp2_with fail
          go_roundw
          case rel => exact ⟨2, _, by omega, rfl, rfl, hnx.out _ (by omega) (by omega)⟩
          case measure => simp [intOf]
      · have hcv := one_back wr (n / 65536 % 8) (by omega) (by omega)
        as_aux_lemma =>
          go_wp2_with fail
          go_roundw
          case rel => exact ⟨3, _, by omega, rfl, rfl, hnx.out _ (by omega) (by omega)⟩
          case measure => simp [intOf]
      · have hcv := one_back wr (n / 16777216 % 8) (by omega) (by omega)
        as_aux_lemma =>
          go_wp2_with fail
          go_roundw
          case rel => exact ⟨4, _, by omega, rfl, rfl, hnx.out _ (by omega) (by omega)⟩
          case measure => simp [intOf]
    · obtain rfl : k = 4 := by omega
      have hd4 : d.size = 4 := hd.out.1.1
      have HO : Hid (Oct4 (toN d)) := octS_4 hd.out.1
      have HBW : Hid (Below w.heap.size w wr) := hd.out.2
      have hx := bits_ext (n % 9) (by omega) (by omega)
      obtain ⟨B, hB⟩ : ∃ B, ((⟨#[49, 49, 49, 48, 49, 49, 48, 49, 48, 49]⟩ : ByteArray).extract 0 (1 + n % 9).toNat) = B := ⟨_, rfl⟩
      rw [hB] at hx
      have HB := Lib.hid hx.1
      have hB10 := hx.2
      have hkb : Hid ((n % 9).toNat < 9) := by show _ < _; omega
      clear hd hx hlt
      go_upto_region 7 with fail
      go_cut [10] (fun s10 wx => ∃ b : Nat, s10 = .slice (some ⟨b, 0, none⟩) 23 23 ∧ Hid (RowAt wx b (toN d) (n % 9).toNat w))
      case first =>
          go_wp2_with fail
          go_meet
          case rel =>
            refine ⟨wr.heap.size, rfl, ?_⟩
            have h := rowAt_mk (d := d) (B := B) (t := 9) HB.out HBW.out
            unfold badStr at h
            simp only [List.map] at h
            exact h
      case rest =>
        obtain ⟨b, rfl, hrow⟩ := hcut
        clear HBW hB hB10 hd4 HB
        go_upto_region 8 with fail
        go_cut [11] (fun s11 wx => ∃ t : List Nat, Hid (t ∈ tails5) ∧ s11 = .string ⟨(encs t).toArray⟩ ∧ Hid (RowAt wx b (toN d) (n % 9).toNat w))
        case first =>
          have hm : tail % 5 = 0 ∨ tail % 5 = 1 ∨ tail % 5 = 2 ∨ tail % 5 = 3 ∨ tail % 5 = 4 := by omega
          rcases hm with hm | hm | hm | hm | hm
          · go_wp2_with fail
            go_meet
            case rel => exact ⟨[], by show _ ∈ _; simp [tails5], by rw [enc0], rowAt_alloc hrow.out _⟩
          · go_wp2_with fail
            go_meet
            case rel => exact ⟨[32], by show _ ∈ _; simp [tails5], by rw [enc1], rowAt_alloc hrow.out _⟩
          · go_wp2_with fail
            go_meet
            case rel => exact ⟨[41], by show _ ∈ _; simp [tails5], by rw [enc2], rowAt_alloc hrow.out _⟩
          · go_wp2_with fail
            go_meet
            case rel => exact ⟨[10], by show _ ∈ _; simp [tails5], by rw [enc3], rowAt_alloc hrow.out _⟩
          · go_wp2_with fail
            go_meet
            case rel => exact ⟨[44], by show _ ∈ _; simp [tails5], by rw [enc4], rowAt_alloc hrow.out _⟩
        case rest =>
          obtain ⟨t, ht, rfl, hrow2⟩ := hcut
          clear hrow
          have hj0 : 0 ≤ kind % 23 := by omega
          have hj1 : kind % 23 < 23 := by omega
          obtain ⟨s, x0, hx0, hs0, hcell⟩ := hrow2.out.2.1 (kind % 23).toNat (by omega)
          obtain ⟨x, l, hsrc, hbad, hz1, hz2⟩ := bad_src HO.out hkb.out (by rw [hs0]; exact hx0) ht.out
          have HSRC := Lib.hid hsrc
          have HBAD := Lib.hid hbad
          have hlen : ¬ 9223372036854775807 < s.size + (encs t).length := by omega
          have HB8 : Hid (Below w.heap.size w wc) := hrow2.out.2.2
          clear hx0 hs0 hsrc hbad hrow2
          go_wp2_with fail
          go_at_call 29
          refine (implNumber_calls _ x l ea (reads_number HSRC.out.1) _ (glob_below HG.out HB8.out) HSRC.out.1 HSRC.out.2.1 HSRC.out.2.2 (Nat.le_trans hw HB8.out.size)).mono ?_
          rintro e w9 ⟨lit, kd, bad, ch, ns, hIs, v, l', rfl, htx, hrow9, hB9⟩
          obtain ⟨rfl, hns⟩ := HBAD.out _ _ _ _ _ hIs
          obtain ⟨ta, tc, rfl⟩ := one_told hns htx hrow9
          have HB9 : Hid (Below w.heap.size w w9) := HB8.out.trans (hB9.mono HB8.out.size)
          clear hIs htx hrow9 hB9 hns
          go_wp2_with fail
          go_ret
          exact ⟨rfl, HB9.out.alloc HB9.out.size _⟩
end Go.Proofs.YtnehkpoggkfikaaDoor
