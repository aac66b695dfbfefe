/-
  The statement on remarks of the other kind, walked. Conditions: each law's own.
-/
import Derived.Test.YtnehkpoggkfikaaDoorDFull
import Derived.Test.YtnehkpoggkfikaaDoorLLine
import Derived.Test.YtnehkpoggkfikaaDoorLRawOpen
import Derived.Test.YtnehkpoggkfikaaDoorSpec3
namespace Go.Proofs.YtnehkpoggkfikaaDoor
open Go.RowKit
set_option linter.unusedVariables false

/-- A remark of the other kind: up to its end, told where asked for; else an error. -/
def FullIs (m : Int) (l : List Nat) : TokR := fun lit kind bad ch ns =>
  (∃ k, comE l = some k ∧ ch = chOf (l.drop k) ∧ ((m = 1 ∧ ∃ x y : Int, ns = [(x, y, ⟨(enc 47 ++ enc 42 ++ encs (l.take k)).toArray⟩)]) ∨ (m = 0 ∧ ns = []))) ∨ (comE l = none ∧ ns.length = 1)
theorem comE_two {l : List Nat} {k : Nat} (h : comE l = some k) : 2 ≤ k := by
  induction l generalizing k with
  | nil => cases h
  | cons c l ih =>
    by_cases hc : c = 42 ∧ l.head? = some 47
    · unfold comE at h
      rw [if_pos hc] at h
      cases h; omega
    · rw [comE_step hc] at h
      cases hl : comE l with
      | none => rw [hl] at h; cases h
      | some j => rw [hl] at h; have := ih hl; simp at h; omega
theorem chOf_drop {l : List Nat} (h : okAll l.tail) {k : Nat} (hk : 1 ≤ k) : -2147483648 ≤ chOf (l.drop k) ∧ chOf (l.drop k) ≤ 2147483647 := by
  have e : l.drop k = l.tail.drop (k - 1) := by rw [← List.drop_one, List.drop_drop]; congr 1; omega
  rw [e]
  exact chOf_bounds fun x hx => h x (List.mem_of_mem_drop hx)
theorem reads_full (m : Int) (hm : m = 1 ∨ m = 0) (l : List Nat) : ReadsFull (FullIs m l) 47 42 l m := by
  intro E w h
  have ho := h.okAll
  rcases hm with rfl | rfl
  · refine (fullComment_told E _ l 0 [] 1 1 w h.at_ (by omega) h.tail).mono ?_
    rintro e w' ⟨rfl, hF, ⟨k, hk, x, y, hS⟩ | ⟨hk, a, b, t, hS⟩⟩
    · exact TokEnd.mk (ns := [(x, y, _)]) hF.tk (.inl ⟨k, hk, rfl, .inl ⟨rfl, x, y, rfl⟩⟩) (by omega) (chOf_drop ho (by have := comE_two hk; omega)) (EndAt.ofP (o := some _) h hF hS)
    · exact TokEnd.mk (ns := [(a, b, t)]) hF.tk (.inr ⟨hk, rfl⟩) (by omega) (by simp [chOf]) (EndAt.ofP (o := some _) (rest := []) h hF hS)
  · refine (fullComment_off E _ l 0 [] 1 1 w h.at_ (by omega) (by decide +kernel) h.tail).mono ?_
    rintro e w' ⟨rfl, hF, ⟨k, hk, hS⟩ | ⟨hk, a, b, t, hS⟩⟩
    · exact TokEnd.mk (ns := []) hF.tk (.inl ⟨k, hk, rfl, .inr ⟨rfl, rfl⟩⟩) (by omega) (chOf_drop ho (by have := comE_two hk; omega)) (EndAt.ofP (o := none) h hF hS)
    · exact TokEnd.mk (ns := [(a, b, t)]) hF.tk (.inr ⟨hk, rfl⟩) (by omega) (by simp [chOf]) (EndAt.ofP (o := none) (rest := []) h hF hS)

def NoPair (rs : List Nat) : Prop := ∀ a b, rs ≠ a ++ 42 :: 47 :: b
theorem NoPair.tail {c : Nat} {rs : List Nat} (h : NoPair (c :: rs)) : NoPair rs := fun a b e => h (c :: a) b (by rw [e]; rfl)
theorem comE_open {rs t : List Nat} (h : NoPair rs) : comE (rs ++ 42 :: 47 :: t) = some (rs.length + 2) := by
  induction rs with
  | nil => exact comE_hit t
  | cons c rs ih =>
    rw [List.cons_append, comE_step, ih h.tail]
    · rfl
    · rintro ⟨rfl, h2⟩
      cases rs with
      | nil => simp at h2
      | cons d rs =>
        simp at h2
        subst h2
        exact h [] rs rfl
theorem comE_none {rs : List Nat} (h : NoPair rs) : comE rs = none := by
  induction rs with
  | nil => rfl
  | cons c rs ih =>
    rw [comE_step, ih h.tail]
    · rfl
    · rintro ⟨rfl, h2⟩
      cases rs with
      | nil => simp at h2
      | cons d rs =>
        simp at h2
        subst h2
        exact h [] rs rfl
theorem noPair_of {s : ByteArray} {rs : List Nat} (hs : s.data.toList = encs rs) (h : OpenOf s) : NoPair rs := by
  rintro a b rfl
  have e42 : enc 42 = [42] := by decide +kernel
  have e47 : enc 47 = [47] := by decide +kernel
  have hl : s.data.toList = encs a ++ 42 :: 47 :: encs b := by
    rw [hs, encs_append]; simp [encs, e42, e47]
  have hsz : s.size = (encs a).length + (2 + (encs b).length) := by
    have h1 : s.data.toList.length = s.size := rfl
    have h2 := congrArg List.length hl
    simp only [List.length_append, List.length_cons] at h2
    omega
  have g : ∀ (i : Nat) (hi : i < s.size), s[i] = (s.data.toList)[i]'(by simpa using hi) := fun i hi => by simp [ByteArray.getElem_eq_getElem_data]
  refine h (encs a).length (by omega) ⟨?_, ?_⟩
  · rw [g _ (by omega)]
    have : (s.data.toList)[(encs a).length]? = some 42 := by rw [hl]; simp
    rw [List.getElem?_eq_some_iff] at this
    obtain ⟨_, this⟩ := this
    rw [this]; rfl
  · rw [g _ (by omega)]
    have : (s.data.toList)[(encs a).length + 1]? = some 47 := by rw [hl]; simp
    rw [List.getElem?_eq_some_iff] at this
    obtain ⟨_, this⟩ := this
    rw [this]; rfl

/-- What the remark's text gives. -/
def FullText (s : ByteArray) (b rs : List Nat) : Prop :=
  okAll (47 :: 42 :: (rs ++ 42 :: 47 :: b)) ∧ ((((⟨#[47, 42]⟩ ++ s) ++ ⟨#[42, 47]⟩) ++ ⟨(encs b).toArray⟩ : ByteArray).data.toList = encs (47 :: 42 :: (rs ++ 42 :: 47 :: b))) ∧ ((((⟨#[47, 42]⟩ ++ s) ++ ⟨#[42, 47]⟩) ++ ⟨(encs b).toArray⟩ : ByteArray).size : Int) ≤ 1900 ∧
  (okAll (47 :: 42 :: rs) ∧ ((⟨#[47, 42]⟩ ++ s : ByteArray).data.toList = encs (47 :: 42 :: rs)) ∧ ((⟨#[47, 42]⟩ ++ s : ByteArray).size : Int) ≤ 1900) ∧
  (∀ lit kind bad ch ns, FullIs 1 (rs ++ 42 :: 47 :: b) lit kind bad ch ns → ch = chOf b ∧ ∃ x y : Int, ns = [(x, y, (⟨#[47, 42]⟩ ++ s) ++ ⟨#[42, 47]⟩)]) ∧
  (∀ lit kind bad ch ns, FullIs 0 (rs ++ 42 :: 47 :: b) lit kind bad ch ns → ch = chOf b ∧ ns = []) ∧
  (∀ lit kind bad ch ns, FullIs 0 rs lit kind bad ch ns → ns.length = 1)
theorem full_text {s : ByteArray} {b : List Nat} (hT : IsText s) (hO : OpenOf s) (hb : b ∈ behinds) : ∃ rs, FullText s b rs := by
  obtain ⟨rs, hs, hok, h60⟩ := hT
  obtain ⟨okb, hb2⟩ := behinds_ok hb
  have hp := noPair_of hs hO
  have e47 : enc 47 = [47] := by decide +kernel
  have e42 : enc 42 = [42] := by decide +kernel
  have z2 : (⟨#[47, 42]⟩ : ByteArray).size = 2 := rfl
  have z3 : (⟨#[42, 47]⟩ : ByteArray).size = 2 := rfl
  have z4 : (⟨(encs b).toArray⟩ : ByteArray).size = (encs b).length := by show (encs b).toArray.size = _; simp
  have o47 : okR 47 := by unfold okR; omega
  have o42 : okR 42 := by unfold okR; omega
  have hdrop : (rs ++ 42 :: 47 :: b).drop (rs.length + 2) = b := by rw [List.drop_append]; simp
  have htake : (rs ++ 42 :: 47 :: b).take (rs.length + 2) = rs ++ [42, 47] := by rw [List.take_append, List.take_of_length_le (by omega)]; simp
  have hq : ∀ m lit kind bad ch ns, FullIs m (rs ++ 42 :: 47 :: b) lit kind bad ch ns → ch = chOf b ∧ ((m = 1 ∧ ∃ x y : Int, ns = [(x, y, (⟨#[47, 42]⟩ ++ s) ++ ⟨#[42, 47]⟩)]) ∨ (m = 0 ∧ ns = [])) := by
    rintro m lit kind bad ch ns (⟨k, h1, h2, h3⟩ | ⟨h1, -⟩)
    · rw [comE_open hp] at h1
      cases h1
      rw [hdrop] at h2
      refine ⟨h2, ?_⟩
      rcases h3 with ⟨a1, x, y, a2⟩ | h3
      · refine .inl ⟨a1, x, y, ?_⟩
        rw [a2, htake]
        have e : (⟨(enc 47 ++ enc 42 ++ encs (rs ++ [42, 47])).toArray⟩ : ByteArray) = (⟨#[47, 42]⟩ ++ s) ++ ⟨#[42, 47]⟩ := by
          apply ByteArray.ext
          apply Array.toList_inj.1
          simp only [ByteArray.data_append, Array.toList_append, hs, e47, e42, encs_append, encs]
          simp
        rw [e]
      · exact .inr h3
    · rw [comE_open hp] at h1; cases h1
  refine ⟨rs, okAll_cons.2 ⟨o47, okAll_cons.2 ⟨o42, okAll_append.2 ⟨hok, okAll_cons.2 ⟨o42, okAll_cons.2 ⟨o47, okb⟩⟩⟩⟩⟩, ?_, ?_, ⟨okAll_cons.2 ⟨o47, okAll_cons.2 ⟨o42, hok⟩⟩, ?_, ?_⟩, ?_, ?_, ?_⟩
  · simp only [ByteArray.data_append, Array.toList_append, hs, encs, encs_append, e47, e42]
    simp
  · simp only [ByteArray.size_append]; omega
  · simp only [ByteArray.data_append, Array.toList_append, hs, encs, e47, e42]
    simp
  · simp only [ByteArray.size_append]; omega
  · intro lit kind bad ch ns h
    obtain ⟨h1, ⟨_, h2⟩ | ⟨h2, _⟩⟩ := hq 1 _ _ _ _ _ h
    · exact ⟨h1, h2⟩
    · omega
  · intro lit kind bad ch ns h
    obtain ⟨h1, ⟨h2, _⟩ | ⟨_, h2⟩⟩ := hq 0 _ _ _ _ _ h
    · omega
    · exact ⟨h1, h2⟩
  · rintro lit kind bad ch ns (⟨k, h1, -⟩ | ⟨-, h⟩)
    · rw [comE_none hp] at h1; cases h1
    · exact h

theorem some_note {w : World} {B : Nat} {v : Value} {ns l' : List Note} (hn : ns.length = 1) (htx : l'.map (·.2.2) = ns.map (·.2.2)) (h : w.ownsRow B 36 3 v l'.length (cellsI l')) : ∃ a c, v = .slice a 1 c := by
  have e : l'.length = 1 := by have := congrArg List.length htx; simpa [hn] using this
  rw [e] at h
  exact ownsRow_slice h

set_option maxRecDepth 100000 in
set_option maxHeartbeats 2000000 in
theorem fnFull_calls (s : ByteArray) (n : Int) (ea : Addr) (w : World) (h0 : 0 ≤ n) (h1 : n < 256) (hG : Glob w ea) (hw : 12 ≤ w.heap.size) :
    Calls Tryd.prog 6 #[.string s, .int .u8 n] w fun e w' => e = .returned (.bool true) ∧ Below w.heap.size w w' := by
  have HG := Lib.hid hG
  clear hG
  by_cases hs : (s.size : Int) ≤ 2147483647
  case neg =>
    have hs' : decide (2147483647 < (s.size : Int)) = true := by simp; omega
    go_enter Tryd.func6, Tryd.ntmps6
    go_wp2_with fail
    go_ret
    exact ⟨rfl, Below.refl _ _⟩
  have hs' : decide (2147483647 < (s.size : Int)) = false := by simp; omega
  go_enter Tryd.func6, Tryd.ntmps6
  go_wp2_with fail
  go_at_call 17
  refine (textok_calls s _ (by omega)).mono ?_
  rintro e w1 ⟨⟨b1, rfl, hb1⟩, hB1⟩
  cases b1
  · go_wp2_with fail
    go_ret
    exact ⟨rfl, hB1⟩
  have hT := Lib.hid (hb1 rfl)
  have HB1 := Lib.hid hB1
  clear hb1 hB1
  go_wp2_with fail
  go_at_call 18
  refine (without_calls s ⟨#[13]⟩ _ (by omega) (by decide)).mono ?_
  rintro e w2 ⟨⟨b2, rfl, hb2⟩, hB2⟩
  have HB2 : Hid (Below w.heap.size w w2) := HB1.out.trans (hB2.mono HB1.out.size)
  clear hb2 hB2
  cases b2
  · go_wp2_with fail
    go_ret
    exact ⟨rfl, HB2.out⟩
  go_wp2_with fail
  go_at_call 23
  refine (open_calls s _ (by omega)).mono ?_
  rintro e w3 ⟨⟨b3, rfl, hb3⟩, hB3⟩
  have HB3 : Hid (Below w.heap.size w w3) := HB2.out.trans (hB3.mono HB2.out.size)
  clear hB3
  cases b3
  · go_wp2_with fail
    go_ret
    exact ⟨rfl, HB3.out⟩
  have hO := Lib.hid (hb3 rfl)
  clear hb3
  go_wp2_with fail
  go_at_call 19
  refine (behind_calls n _ h0 h1).mono ?_
  rintro e w4 ⟨⟨b, hb, rfl⟩, hB4⟩
  obtain ⟨rs, hok, hd, hmax, hopen, hR1, hR0, hR2⟩ := full_text hT.out hO.out hb
  have HB4 : Hid (Below w.heap.size w w4) := HB3.out.trans (hB4.mono HB3.out.size)
  have hfirst := chOf_firstOf b
  have hlen : ¬ 9223372036854775807 < 2 + s.size + 2 + (encs b).length := by have := (behinds_ok hb).2; omega
  have hlen2 : ¬ 9223372036854775807 < 2 + s.size + 2 := by omega
  have hlen3 : ¬ 9223372036854775807 < 2 + s.size := by omega
  have HR1 := Lib.hid hR1
  have HR0 := Lib.hid hR0
  have HR2 := Lib.hid hR2
  have HOK := Lib.hid hok
  have HD := Lib.hid hd
  have HOP := Lib.hid hopen
  rw [hfirst]
  clear hb hB4 hR1 hR0 hR2 hok hd hopen hfirst
  go_wp2_with fail
  go_at_call 24
  refine (implFull_calls _ 47 42 (rs ++ 42 :: 47 :: b) 1 (by omega) (by omega) ea (reads_full 1 (.inl rfl) _) _ (glob_below HG.out HB4.out) HOK.out HD.out hmax (Nat.le_trans hw HB4.out.size)).mono ?_
  rintro e w5 ⟨lit, kind, bad, ch, ns, hIs, v, l', rfl, htx, hrow, hB5⟩
  obtain ⟨rfl, x, y, rfl⟩ := HR1.out _ _ _ _ _ hIs
  obtain ⟨g, tc, rfl, hg, hcell⟩ := one_note htx hrow
  have HB5 : Hid (Below w.heap.size w w5) := HB4.out.trans (hB5.mono HB4.out.size)
  clear hIs htx hrow hB5
  go_wp2_with fail
  go_at_call 24
  refine (implFull_calls _ 47 42 (rs ++ 42 :: 47 :: b) 0 (by omega) (by omega) ea (reads_full 0 (.inr rfl) _) _ (glob_below HG.out HB5.out) HOK.out HD.out hmax (Nat.le_trans hw HB5.out.size)).mono ?_
  rintro e w6 ⟨lit2, kind2, bad2, ch2, ns2, hIs, v2, l2, rfl, htx, hrow, hB6⟩
  obtain ⟨rfl, rfl⟩ := HR0.out _ _ _ _ _ hIs
  obtain ⟨ta, tc2, rfl⟩ := no_note htx hrow
  have hcell2 : w6.cell? ⟨g, 2, none⟩ = some (.string (⟨#[47, 42]⟩ ++ s ++ ⟨#[42, 47]⟩)) := by rw [hB6.cell (p := ⟨g, 2, none⟩) hg]; exact hcell
  have HB6 : Hid (Below w.heap.size w w6) := HB5.out.trans (hB6.mono HB5.out.size)
  have hg2 : g < w6.heap.size := Nat.lt_of_lt_of_le hg hB6.size
  have hg3 : ¬ w6.heap.size = g := by omega
  have hg4 : ¬ w6.heap.size + 1 = g := by omega
  have hfld := field_told
  clear hIs htx hrow hB6 hcell hg
  go_wp2_with fail
  go_at_call 24
  have HB7 : ∀ a b : Obj, Below w.heap.size w ((w6.alloc a).alloc b) := fun a b => (HB6.out.alloc HB6.out.size a).alloc (by have := HB6.out.size; simp; omega) b
  have HB7 := Lib.hid HB7
  refine (implFull_calls _ 47 42 rs 0 (by omega) (by omega) ea (reads_full 0 (.inr rfl) _) _ (glob_below HG.out (HB7.out _ _)) HOP.out.1 HOP.out.2.1 HOP.out.2.2 (Nat.le_trans hw (HB7.out _ _).size)).mono ?_
  rintro e w7 ⟨lit3, kind3, bad3, ch3, ns3, hIs, v3, l3, rfl, htx, hrow, hB8⟩
  obtain ⟨ta3, tc3, rfl⟩ := some_note (HR2.out _ _ _ _ _ hIs) htx hrow
  have HB8 : Hid (Below w.heap.size w w7) := (HB7.out _ _).trans (hB8.mono (HB7.out _ _).size)
  clear hIs htx hrow hB8
  go_wp2_with fail
  go_ret
  exact ⟨rfl, HB8.out⟩
end Go.Proofs.YtnehkpoggkfikaaDoor
