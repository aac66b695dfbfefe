/-
  The walks through escape where digits stand behind the backslash: o0,o1,o2,o3. Conditions: each law's own. (Printed by genescx.py.)
-/
import Derived.Test.YtnehkpoggkfikaaDoorEscX
namespace Go.Proofs.YtnehkpoggkfikaaDoor
open Go.RowKit
set_option linter.unusedVariables false

set_option maxRecDepth 100000 in
set_option maxHeartbeats 4000000 in
theorem escape_o0 (E : Env) (q : Nat) (p : List UInt8) (l : List Nat) (e : Nat) (w : World) (hq : q = 34 ∨ q = 39) (hn : e < 100000) (h : SA w E p (48 :: l) e) :
    Calls Tryd.prog 90 #[.pointer (some ⟨E.c.sb, 0, none⟩), .int .i32 (q : Int)] w (EscPost E q p (48 :: l) e w) := by
  have hE : Hid (escE q (48 :: l) = digsE 8 255 3 0 (48 :: l)) := by
    show _ = _
    rw [escE_cons]; unfold escC
    rw [if_neg (by unfold simpleEsc; omega), if_pos ⟨by omega, by omega⟩]
  have HL : Hid (∀ x ∈ 48 :: l, x < 2147483648) := fun x hx => by
    rcases List.mem_cons.1 hx with rfl | hx
    · decide
    · have := h.ok x hx; unfold okR at this; omega
  have hch := h.ch
  have H := Lib.hid h
  simp only [chOf] at hch
  have tq : ((48 : Int) == (q : Int)) = false := by simp; omega
  clear h hq
  go_enter Tryd.func90, Tryd.ntmps90
  go_wp2_with fail
  go_loopg [8, 9, 10] 8 (fun g x i dd wr => ∃ (d X : Nat) (p' : List UInt8) (l' : List Nat) (d0 : Value), g = d + 5 ∧ x = .int .u32 X ∧ i = .int .i64 d ∧ dd = d0 ∧ SA wr E p' l' e ∧ GF E w wr ∧ Hid (DigTo 8 255 3 p (48 :: l) d X p' l'))
  case atStart => exact ⟨3, 0, _, _, _, rfl, rfl, rfl, rfl, H.out, (GF.refl E w), digTo_start _ _ _ _ _⟩
  case round =>
    obtain ⟨d, X, p', l', d0, rfl, rfl, rfl, rfl, hS, hF, hD⟩ := hrel
    have hch2 := hS.ch
    have HS := Lib.hid hS
    have HF := Lib.hid hF
    clear hS hF
    cases d with
    | zero =>
      have HE := Lib.hid (digTo_end hD.out)
      by_cases hX : X ≤ 255
      · have hh := Lib.hid hX
        have t1 : ¬ (255 : Int) < (X : Int) := by omega
        have t2 : ¬ (55296 : Int) ≤ (X : Int) := by omega
        clear hX
        go_wp2_with fail
        go_ret
        obtain ⟨k, h1, h2, h3, h4⟩ := HE.out
        rw [escOk_yes (by have := hh.out; omega)] at h1
        exact escPost_end (by rw [hE.out, h1]) (by rw [h2]) (by rw [h3]) (by simp [er]) HS.out HF.out
      · have hh := Lib.hid hX
        have t1 : (255 : Int) < (X : Int) := by omega
        clear hX
        go_wp2_with (go_at_call 91; refine (errorf_sa E p' l' e _ _ _ _ _ (HS.out.new _) hn).mono ?_; rintro en w3 ⟨rfl, hS3, hF3⟩; have hS3 := Lib.hid hS3; have hF3 := Lib.hid hF3)
        go_ret
        obtain ⟨k, h1, h2, h3, h4⟩ := HE.out
        rw [escOk_no (by have := hh.out; omega)] at h1
        exact escPost_end (by rw [hE.out, h1]) (by rw [h2]) (by rw [h3]) (by simp [er]) hS3.out ((HF.out.trans (HS.out.gnew _)).trans hF3.out)
    | succ d =>
      have hdi : (0 : Int) < ((d + 1 : Nat) : Int) := by omega
      have hXs := Lib.hid (digTo_lt hD.out (by decide) (by omega))
      have hd8 : (d : Int) ≤ 8 := by have := hD.out.1; omega
      cases l' with
      | nil =>
        simp only [chOf] at hch2
        have HE := Lib.hid (digTo_eof hD.out)
        go_wp2_with fail
        go_ret
        obtain ⟨k, h1, h2, h3⟩ := HE.out
        exact escPost_end (by rw [hE.out, h1]) (by rw [h2]) (by rw [h3]) (by simp [er]) HS.out HF.out
      | cons c l'' =>
        simp only [chOf] at hch2
        have hc0 : ¬ (c : Int) < 0 := by omega
        have hcb : Hid (c < 2147483648) := by
          obtain ⟨_, _, h3, _⟩ := hD.out
          exact HL.out c (List.mem_of_mem_drop (h3 ▸ List.mem_cons_self))
        by_cases h1 : 48 ≤ c ∧ c ≤ 55
        · obtain ⟨h1, h2⟩ := h1
          have h1' : (48 : Int) ≤ c := by omega
          have h2' : (c : Int) ≤ 57 := by omega
          have hv := Lib.hid (dig_dec 8 c h1 (by omega))
          have hnx := Lib.hid (digTo_step hD.out (by rw [hv.out]; omega))
          have hw1 : IntKind.u32.wrap (c : Int) = (c : Int) := IntWalk.u32_in _ (by have := hcb.out; omega)
          have hw2 : IntKind.u32.wrap ((c : Int) - 48) = (c : Int) - 48 := IntWalk.u32_in _ (by have := hcb.out; omega)
          have hw3 : IntKind.u32.wrap ((X : Int) * 8) = (X : Int) * 8 := IntWalk.u32_in _ (by have := hXs.out; omega)
          have hw4 : IntKind.u32.wrap ((X : Int) * 8 + ((c : Int) - 48)) = (X : Int) * 8 + ((c : Int) - 48) := IntWalk.u32_in _ (by have := hXs.out; omega)
          have hw6 : ¬ (8 : Int) ≤ (c : Int) - 48 := by omega
          clear h1 h2
          go_wp2_with (first | (go_at_call 100; refine (isDecimal_yes c _ h1' h2').mono ?_; rintro en w3 ⟨rfl, rfl⟩) | (go_at_call 57; refine (next_sa E p' c l'' e _ HS.out).mono ?_; rintro en w3 ⟨rfl, hS3, hF3⟩; have hS3 := Lib.hid hS3; have hF3 := Lib.hid hF3))
          go_roundg (d + 5)
          case measure => omega
          case rel => exact ⟨d, X * 8 + digB 8 c, _, l'', _, rfl, u32_eq (by rw [hv.out]; omega), by go_num, rfl, hS3.out, HF.out.trans hF3.out, hnx.out⟩
        by_cases h2 : 56 ≤ c ∧ c ≤ 57
        · obtain ⟨h1, h2⟩ := h2
          have h1' : (48 : Int) ≤ c := by omega
          have h2' : (c : Int) ≤ 57 := by omega
          have hv := Lib.hid (dig_dec 8 c (by omega) h2)
          have hst := Lib.hid (digTo_stop hD.out (by rw [hv.out]; omega))
          have hw1 : IntKind.u32.wrap (c : Int) = (c : Int) := IntWalk.u32_in _ (by have := hcb.out; omega)
          have hw2 : IntKind.u32.wrap ((c : Int) - 48) = (c : Int) - 48 := IntWalk.u32_in _ (by have := hcb.out; omega)
          have hw6 : (8 : Int) ≤ (c : Int) - 48 := by omega
          clear h1 h2
          go_wp2_with (first | (go_at_call 100; refine (isDecimal_yes c _ h1' h2').mono ?_; rintro en w3 ⟨rfl, rfl⟩))
          go_region_held3 (fun w' => w'.cell? ⟨E.c.sb, 9, none⟩ = some (.int .i32 (c : Int))) (first | exact hch2 | exact d9 | go_keep)
            (first | (go_at_call 95; refine (baseName_calls _ _ (by decide)).mono ?_; rintro en w3 ⟨⟨mm, rfl⟩, rfl⟩) | (go_at_call 91; refine (errorf_sa E p' (c :: l'') e _ _ _ _ _ ((HS.out.new _).drewN 1) hn).mono ?_; rintro en w4 ⟨rfl, hS4, hF4⟩; have d9 := hS4.ch; have hS4 := Lib.hid hS4; have hF4 := Lib.hid hF4))
          go_wp2_with fail
          go_ret
          obtain ⟨k, h1, h2, h3⟩ := hst.out
          exact escPost_end (by rw [hE.out, h1]) (by rw [h2]) (by rw [h3]) (by simp [er]) hS4.out ((HF.out.trans ((HS.out.gnew _).drewN 1)).trans hF4.out)
        have h0 : ¬ (48 ≤ c ∧ c ≤ 57) := by omega
        clear h1 h2
        have hno : (c : Int) < 48 ∨ 57 < (c : Int) := by omega
        have hno := Lib.hid hno
        by_cases hl1 : 97 ≤ low c
        · have hl1' : (97 : Int) ≤ (low c : Int) := by omega
          by_cases hl2 : low c ≤ 102
          · have hl2' : (low c : Int) ≤ 102 := by omega
            have hv := Lib.hid (dig_low 8 c h0 hl1 hl2)
            have hst := Lib.hid (digTo_stop hD.out (by rw [hv.out]; omega))
            have hlb := Lib.hid (low_lt c hcb.out)
            have hw1 : IntKind.u32.wrap (low c : Int) = (low c : Int) := IntWalk.u32_in _ (by have := hlb.out; omega)
            have hw2 : IntKind.u32.wrap ((low c : Int) - 97) = (low c : Int) - 97 := IntWalk.u32_in _ (by have := hlb.out; omega)
            have hw5 : IntKind.u32.wrap ((low c : Int) - 97 + 10) = (low c : Int) - 97 + 10 := IntWalk.u32_in _ (by have := hlb.out; omega)
            have hw6 : (8 : Int) ≤ (low c : Int) - 97 + 10 := by omega
            clear h0 hl1 hl2
            go_wp2_with (first | (go_at_call 100; refine (isDecimal_no c _ hno.out).mono ?_; rintro en w3 ⟨rfl, rfl⟩) | (go_at_call 93; refine (lower_calls c _ hcb.out).mono ?_; rintro en w3 ⟨rfl, rfl⟩))
            go_region_held3 (fun w' => w'.cell? ⟨E.c.sb, 9, none⟩ = some (.int .i32 (c : Int))) (first | exact hch2 | exact d9 | go_keep)
              (first | (go_at_call 95; refine (baseName_calls _ _ (by decide)).mono ?_; rintro en w3 ⟨⟨mm, rfl⟩, rfl⟩) | (go_at_call 91; refine (errorf_sa E p' (c :: l'') e _ _ _ _ _ ((HS.out.new _).drewN 1) hn).mono ?_; rintro en w4 ⟨rfl, hS4, hF4⟩; have d9 := hS4.ch; have hS4 := Lib.hid hS4; have hF4 := Lib.hid hF4))
            go_wp2_with fail
            go_ret
            obtain ⟨k, h1, h2, h3⟩ := hst.out
            exact escPost_end (by rw [hE.out, h1]) (by rw [h2]) (by rw [h3]) (by simp [er]) hS4.out ((HF.out.trans ((HS.out.gnew _).drewN 1)).trans hF4.out)
          · have hl2' : ¬ (low c : Int) ≤ 102 := by omega
            have hv := Lib.hid (dig_not 8 c h0 (fun h => hl2 h.2))
            have hst := Lib.hid (digTo_stop hD.out (by rw [hv.out]; omega))
            clear h0 hl1 hl2
            go_wp2_with (first | (go_at_call 100; refine (isDecimal_no c _ hno.out).mono ?_; rintro en w3 ⟨rfl, rfl⟩) | (go_at_call 93; refine (lower_calls c _ hcb.out).mono ?_; rintro en w3 ⟨rfl, rfl⟩))
            go_region_held3 (fun w' => w'.cell? ⟨E.c.sb, 9, none⟩ = some (.int .i32 (c : Int))) (first | exact hch2 | exact d9 | go_keep)
              (first | (go_at_call 95; refine (baseName_calls _ _ (by decide)).mono ?_; rintro en w3 ⟨⟨mm, rfl⟩, rfl⟩) | (go_at_call 91; refine (errorf_sa E p' (c :: l'') e _ _ _ _ _ ((HS.out.new _).drewN 1) hn).mono ?_; rintro en w4 ⟨rfl, hS4, hF4⟩; have d9 := hS4.ch; have hS4 := Lib.hid hS4; have hF4 := Lib.hid hF4))
            go_wp2_with fail
            go_ret
            obtain ⟨k, h1, h2, h3⟩ := hst.out
            exact escPost_end (by rw [hE.out, h1]) (by rw [h2]) (by rw [h3]) (by simp [er]) hS4.out ((HF.out.trans ((HS.out.gnew _).drewN 1)).trans hF4.out)
        · have hl1' : ¬ (97 : Int) ≤ (low c : Int) := by omega
          have hv := Lib.hid (dig_not 8 c h0 (fun h => hl1 h.1))
          have hst := Lib.hid (digTo_stop hD.out (by rw [hv.out]; omega))
          clear h0 hl1
          go_wp2_with (first | (go_at_call 100; refine (isDecimal_no c _ hno.out).mono ?_; rintro en w3 ⟨rfl, rfl⟩) | (go_at_call 93; refine (lower_calls c _ hcb.out).mono ?_; rintro en w3 ⟨rfl, rfl⟩))
          go_region_held3 (fun w' => w'.cell? ⟨E.c.sb, 9, none⟩ = some (.int .i32 (c : Int))) (first | exact hch2 | exact d9 | go_keep)
            (first | (go_at_call 95; refine (baseName_calls _ _ (by decide)).mono ?_; rintro en w3 ⟨⟨mm, rfl⟩, rfl⟩) | (go_at_call 91; refine (errorf_sa E p' (c :: l'') e _ _ _ _ _ ((HS.out.new _).drewN 1) hn).mono ?_; rintro en w4 ⟨rfl, hS4, hF4⟩; have d9 := hS4.ch; have hS4 := Lib.hid hS4; have hF4 := Lib.hid hF4))
          go_wp2_with fail
          go_ret
          obtain ⟨k, h1, h2, h3⟩ := hst.out
          exact escPost_end (by rw [hE.out, h1]) (by rw [h2]) (by rw [h3]) (by simp [er]) hS4.out ((HF.out.trans ((HS.out.gnew _).drewN 1)).trans hF4.out)

set_option maxRecDepth 100000 in
set_option maxHeartbeats 4000000 in
theorem escape_o1 (E : Env) (q : Nat) (p : List UInt8) (l : List Nat) (e : Nat) (w : World) (hq : q = 34 ∨ q = 39) (hn : e < 100000) (h : SA w E p (49 :: l) e) :
    Calls Tryd.prog 90 #[.pointer (some ⟨E.c.sb, 0, none⟩), .int .i32 (q : Int)] w (EscPost E q p (49 :: l) e w) := by
  have hE : Hid (escE q (49 :: l) = digsE 8 255 3 0 (49 :: l)) := by
    show _ = _
    rw [escE_cons]; unfold escC
    rw [if_neg (by unfold simpleEsc; omega), if_pos ⟨by omega, by omega⟩]
  have HL : Hid (∀ x ∈ 49 :: l, x < 2147483648) := fun x hx => by
    rcases List.mem_cons.1 hx with rfl | hx
    · decide
    · have := h.ok x hx; unfold okR at this; omega
  have hch := h.ch
  have H := Lib.hid h
  simp only [chOf] at hch
  have tq : ((49 : Int) == (q : Int)) = false := by simp; omega
  clear h hq
  go_enter Tryd.func90, Tryd.ntmps90
  go_wp2_with fail
  go_loopg [8, 9, 10] 8 (fun g x i dd wr => ∃ (d X : Nat) (p' : List UInt8) (l' : List Nat) (d0 : Value), g = d + 5 ∧ x = .int .u32 X ∧ i = .int .i64 d ∧ dd = d0 ∧ SA wr E p' l' e ∧ GF E w wr ∧ Hid (DigTo 8 255 3 p (49 :: l) d X p' l'))
  case atStart => exact ⟨3, 0, _, _, _, rfl, rfl, rfl, rfl, H.out, (GF.refl E w), digTo_start _ _ _ _ _⟩
  case round =>
    obtain ⟨d, X, p', l', d0, rfl, rfl, rfl, rfl, hS, hF, hD⟩ := hrel
    have hch2 := hS.ch
    have HS := Lib.hid hS
    have HF := Lib.hid hF
    clear hS hF
    cases d with
    | zero =>
      have HE := Lib.hid (digTo_end hD.out)
      by_cases hX : X ≤ 255
      · have hh := Lib.hid hX
        have t1 : ¬ (255 : Int) < (X : Int) := by omega
        have t2 : ¬ (55296 : Int) ≤ (X : Int) := by omega
        clear hX
        go_wp2_with fail
        go_ret
        obtain ⟨k, h1, h2, h3, h4⟩ := HE.out
        rw [escOk_yes (by have := hh.out; omega)] at h1
        exact escPost_end (by rw [hE.out, h1]) (by rw [h2]) (by rw [h3]) (by simp [er]) HS.out HF.out
      · have hh := Lib.hid hX
        have t1 : (255 : Int) < (X : Int) := by omega
        clear hX
        go_wp2_with (go_at_call 91; refine (errorf_sa E p' l' e _ _ _ _ _ (HS.out.new _) hn).mono ?_; rintro en w3 ⟨rfl, hS3, hF3⟩; have hS3 := Lib.hid hS3; have hF3 := Lib.hid hF3)
        go_ret
        obtain ⟨k, h1, h2, h3, h4⟩ := HE.out
        rw [escOk_no (by have := hh.out; omega)] at h1
        exact escPost_end (by rw [hE.out, h1]) (by rw [h2]) (by rw [h3]) (by simp [er]) hS3.out ((HF.out.trans (HS.out.gnew _)).trans hF3.out)
    | succ d =>
      have hdi : (0 : Int) < ((d + 1 : Nat) : Int) := by omega
      have hXs := Lib.hid (digTo_lt hD.out (by decide) (by omega))
      have hd8 : (d : Int) ≤ 8 := by have := hD.out.1; omega
      cases l' with
      | nil =>
        simp only [chOf] at hch2
        have HE := Lib.hid (digTo_eof hD.out)
        go_wp2_with fail
        go_ret
        obtain ⟨k, h1, h2, h3⟩ := HE.out
        exact escPost_end (by rw [hE.out, h1]) (by rw [h2]) (by rw [h3]) (by simp [er]) HS.out HF.out
      | cons c l'' =>
        simp only [chOf] at hch2
        have hc0 : ¬ (c : Int) < 0 := by omega
        have hcb : Hid (c < 2147483648) := by
          obtain ⟨_, _, h3, _⟩ := hD.out
          exact HL.out c (List.mem_of_mem_drop (h3 ▸ List.mem_cons_self))
        by_cases h1 : 48 ≤ c ∧ c ≤ 55
        · obtain ⟨h1, h2⟩ := h1
          have h1' : (48 : Int) ≤ c := by omega
          have h2' : (c : Int) ≤ 57 := by omega
          have hv := Lib.hid (dig_dec 8 c h1 (by omega))
          have hnx := Lib.hid (digTo_step hD.out (by rw [hv.out]; omega))
          have hw1 : IntKind.u32.wrap (c : Int) = (c : Int) := IntWalk.u32_in _ (by have := hcb.out; omega)
          have hw2 : IntKind.u32.wrap ((c : Int) - 48) = (c : Int) - 48 := IntWalk.u32_in _ (by have := hcb.out; omega)
          have hw3 : IntKind.u32.wrap ((X : Int) * 8) = (X : Int) * 8 := IntWalk.u32_in _ (by have := hXs.out; omega)
          have hw4 : IntKind.u32.wrap ((X : Int) * 8 + ((c : Int) - 48)) = (X : Int) * 8 + ((c : Int) - 48) := IntWalk.u32_in _ (by have := hXs.out; omega)
          have hw6 : ¬ (8 : Int) ≤ (c : Int) - 48 := by omega
          clear h1 h2
          go_wp2_with (first | (go_at_call 100; refine (isDecimal_yes c _ h1' h2').mono ?_; rintro en w3 ⟨rfl, rfl⟩) | (go_at_call 57; refine (next_sa E p' c l'' e _ HS.out).mono ?_; rintro en w3 ⟨rfl, hS3, hF3⟩; have hS3 := Lib.hid hS3; have hF3 := Lib.hid hF3))
          go_roundg (d + 5)
          case measure => omega
          case rel => exact ⟨d, X * 8 + digB 8 c, _, l'', _, rfl, u32_eq (by rw [hv.out]; omega), by go_num, rfl, hS3.out, HF.out.trans hF3.out, hnx.out⟩
        by_cases h2 : 56 ≤ c ∧ c ≤ 57
        · obtain ⟨h1, h2⟩ := h2
          have h1' : (48 : Int) ≤ c := by omega
          have h2' : (c : Int) ≤ 57 := by omega
          have hv := Lib.hid (dig_dec 8 c (by omega) h2)
          have hst := Lib.hid (digTo_stop hD.out (by rw [hv.out]; omega))
          have hw1 : IntKind.u32.wrap (c : Int) = (c : Int) := IntWalk.u32_in _ (by have := hcb.out; omega)
          have hw2 : IntKind.u32.wrap ((c : Int) - 48) = (c : Int) - 48 := IntWalk.u32_in _ (by have := hcb.out; omega)
          have hw6 : (8 : Int) ≤ (c : Int) - 48 := by omega
          clear h1 h2
          go_wp2_with (first | (go_at_call 100; refine (isDecimal_yes c _ h1' h2').mono ?_; rintro en w3 ⟨rfl, rfl⟩))
          go_region_held3 (fun w' => w'.cell? ⟨E.c.sb, 9, none⟩ = some (.int .i32 (c : Int))) (first | exact hch2 | exact d9 | go_keep)
            (first | (go_at_call 95; refine (baseName_calls _ _ (by decide)).mono ?_; rintro en w3 ⟨⟨mm, rfl⟩, rfl⟩) | (go_at_call 91; refine (errorf_sa E p' (c :: l'') e _ _ _ _ _ ((HS.out.new _).drewN 1) hn).mono ?_; rintro en w4 ⟨rfl, hS4, hF4⟩; have d9 := hS4.ch; have hS4 := Lib.hid hS4; have hF4 := Lib.hid hF4))
          go_wp2_with fail
          go_ret
          obtain ⟨k, h1, h2, h3⟩ := hst.out
          exact escPost_end (by rw [hE.out, h1]) (by rw [h2]) (by rw [h3]) (by simp [er]) hS4.out ((HF.out.trans ((HS.out.gnew _).drewN 1)).trans hF4.out)
        have h0 : ¬ (48 ≤ c ∧ c ≤ 57) := by omega
        clear h1 h2
        have hno : (c : Int) < 48 ∨ 57 < (c : Int) := by omega
        have hno := Lib.hid hno
        by_cases hl1 : 97 ≤ low c
        · have hl1' : (97 : Int) ≤ (low c : Int) := by omega
          by_cases hl2 : low c ≤ 102
          · have hl2' : (low c : Int) ≤ 102 := by omega
            have hv := Lib.hid (dig_low 8 c h0 hl1 hl2)
            have hst := Lib.hid (digTo_stop hD.out (by rw [hv.out]; omega))
            have hlb := Lib.hid (low_lt c hcb.out)
            have hw1 : IntKind.u32.wrap (low c : Int) = (low c : Int) := IntWalk.u32_in _ (by have := hlb.out; omega)
            have hw2 : IntKind.u32.wrap ((low c : Int) - 97) = (low c : Int) - 97 := IntWalk.u32_in _ (by have := hlb.out; omega)
            have hw5 : IntKind.u32.wrap ((low c : Int) - 97 + 10) = (low c : Int) - 97 + 10 := IntWalk.u32_in _ (by have := hlb.out; omega)
            have hw6 : (8 : Int) ≤ (low c : Int) - 97 + 10 := by omega
            clear h0 hl1 hl2
            go_wp2_with (first | (go_at_call 100; refine (isDecimal_no c _ hno.out).mono ?_; rintro en w3 ⟨rfl, rfl⟩) | (go_at_call 93; refine (lower_calls c _ hcb.out).mono ?_; rintro en w3 ⟨rfl, rfl⟩))
            go_region_held3 (fun w' => w'.cell? ⟨E.c.sb, 9, none⟩ = some (.int .i32 (c : Int))) (first | exact hch2 | exact d9 | go_keep)
              (first | (go_at_call 95; refine (baseName_calls _ _ (by decide)).mono ?_; rintro en w3 ⟨⟨mm, rfl⟩, rfl⟩) | (go_at_call 91; refine (errorf_sa E p' (c :: l'') e _ _ _ _ _ ((HS.out.new _).drewN 1) hn).mono ?_; rintro en w4 ⟨rfl, hS4, hF4⟩; have d9 := hS4.ch; have hS4 := Lib.hid hS4; have hF4 := Lib.hid hF4))
            go_wp2_with fail
            go_ret
            obtain ⟨k, h1, h2, h3⟩ := hst.out
            exact escPost_end (by rw [hE.out, h1]) (by rw [h2]) (by rw [h3]) (by simp [er]) hS4.out ((HF.out.trans ((HS.out.gnew _).drewN 1)).trans hF4.out)
          · have hl2' : ¬ (low c : Int) ≤ 102 := by omega
            have hv := Lib.hid (dig_not 8 c h0 (fun h => hl2 h.2))
            have hst := Lib.hid (digTo_stop hD.out (by rw [hv.out]; omega))
            clear h0 hl1 hl2
            go_wp2_with (first | (go_at_call 100; refine (isDecimal_no c _ hno.out).mono ?_; rintro en w3 ⟨rfl, rfl⟩) | (go_at_call 93; refine (lower_calls c _ hcb.out).mono ?_; rintro en w3 ⟨rfl, rfl⟩))
            go_region_held3 (fun w' => w'.cell? ⟨E.c.sb, 9, none⟩ = some (.int .i32 (c : Int))) (first | exact hch2 | exact d9 | go_keep)
              (first | (go_at_call 95; refine (baseName_calls _ _ (by decide)).mono ?_; rintro en w3 ⟨⟨mm, rfl⟩, rfl⟩) | (go_at_call 91; refine (errorf_sa E p' (c :: l'') e _ _ _ _ _ ((HS.out.new _).drewN 1) hn).mono ?_; rintro en w4 ⟨rfl, hS4, hF4⟩; have d9 := hS4.ch; have hS4 := Lib.hid hS4; have hF4 := Lib.hid hF4))
            go_wp2_with fail
            go_ret
            obtain ⟨k, h1, h2, h3⟩ := hst.out
            exact escPost_end (by rw [hE.out, h1]) (by rw [h2]) (by rw [h3]) (by simp [er]) hS4.out ((HF.out.trans ((HS.out.gnew _).drewN 1)).trans hF4.out)
        · have hl1' : ¬ (97 : Int) ≤ (low c : Int) := by omega
          have hv := Lib.hid (dig_not 8 c h0 (fun h => hl1 h.1))
          have hst := Lib.hid (digTo_stop hD.out (by rw [hv.out]; omega))
          clear h0 hl1
          go_wp2_with (first | (go_at_call 100; refine (isDecimal_no c _ hno.out).mono ?_; rintro en w3 ⟨rfl, rfl⟩) | (go_at_call 93; refine (lower_calls c _ hcb.out).mono ?_; rintro en w3 ⟨rfl, rfl⟩))
          go_region_held3 (fun w' => w'.cell? ⟨E.c.sb, 9, none⟩ = some (.int .i32 (c : Int))) (first | exact hch2 | exact d9 | go_keep)
            (first | (go_at_call 95; refine (baseName_calls _ _ (by decide)).mono ?_; rintro en w3 ⟨⟨mm, rfl⟩, rfl⟩) | (go_at_call 91; refine (errorf_sa E p' (c :: l'') e _ _ _ _ _ ((HS.out.new _).drewN 1) hn).mono ?_; rintro en w4 ⟨rfl, hS4, hF4⟩; have d9 := hS4.ch; have hS4 := Lib.hid hS4; have hF4 := Lib.hid hF4))
          go_wp2_with fail
          go_ret
          obtain ⟨k, h1, h2, h3⟩ := hst.out
          exact escPost_end (by rw [hE.out, h1]) (by rw [h2]) (by rw [h3]) (by simp [er]) hS4.out ((HF.out.trans ((HS.out.gnew _).drewN 1)).trans hF4.out)

set_option maxRecDepth 100000 in
set_option maxHeartbeats 4000000 in
theorem escape_o2 (E : Env) (q : Nat) (p : List UInt8) (l : List Nat) (e : Nat) (w : World) (hq : q = 34 ∨ q = 39) (hn : e < 100000) (h : SA w E p (50 :: l) e) :
    Calls Tryd.prog 90 #[.pointer (some ⟨E.c.sb, 0, none⟩), .int .i32 (q : Int)] w (EscPost E q p (50 :: l) e w) := by
  have hE : Hid (escE q (50 :: l) = digsE 8 255 3 0 (50 :: l)) := by
    show _ = _
    rw [escE_cons]; unfold escC
    rw [if_neg (by unfold simpleEsc; omega), if_pos ⟨by omega, by omega⟩]
  have HL : Hid (∀ x ∈ 50 :: l, x < 2147483648) := fun x hx => by
    rcases List.mem_cons.1 hx with rfl | hx
    · decide
    · have := h.ok x hx; unfold okR at this; omega
  have hch := h.ch
  have H := Lib.hid h
  simp only [chOf] at hch
  have tq : ((50 : Int) == (q : Int)) = false := by simp; omega
  clear h hq
  go_enter Tryd.func90, Tryd.ntmps90
  go_wp2_with fail
  go_loopg [8, 9, 10] 8 (fun g x i dd wr => ∃ (d X : Nat) (p' : List UInt8) (l' : List Nat) (d0 : Value), g = d + 5 ∧ x = .int .u32 X ∧ i = .int .i64 d ∧ dd = d0 ∧ SA wr E p' l' e ∧ GF E w wr ∧ Hid (DigTo 8 255 3 p (50 :: l) d X p' l'))
  case atStart => exact ⟨3, 0, _, _, _, rfl, rfl, rfl, rfl, H.out, (GF.refl E w), digTo_start _ _ _ _ _⟩
  case round =>
    obtain ⟨d, X, p', l', d0, rfl, rfl, rfl, rfl, hS, hF, hD⟩ := hrel
    have hch2 := hS.ch
    have HS := Lib.hid hS
    have HF := Lib.hid hF
    clear hS hF
    cases d with
    | zero =>
      have HE := Lib.hid (digTo_end hD.out)
      by_cases hX : X ≤ 255
      · have hh := Lib.hid hX
        have t1 : ¬ (255 : Int) < (X : Int) := by omega
        have t2 : ¬ (55296 : Int) ≤ (X : Int) := by omega
        clear hX
        go_wp2_with fail
        go_ret
        obtain ⟨k, h1, h2, h3, h4⟩ := HE.out
        rw [escOk_yes (by have := hh.out; omega)] at h1
        exact escPost_end (by rw [hE.out, h1]) (by rw [h2]) (by rw [h3]) (by simp [er]) HS.out HF.out
      · have hh := Lib.hid hX
        have t1 : (255 : Int) < (X : Int) := by omega
        clear hX
        go_wp2_with (go_at_call 91; refine (errorf_sa E p' l' e _ _ _ _ _ (HS.out.new _) hn).mono ?_; rintro en w3 ⟨rfl, hS3, hF3⟩; have hS3 := Lib.hid hS3; have hF3 := Lib.hid hF3)
        go_ret
        obtain ⟨k, h1, h2, h3, h4⟩ := HE.out
        rw [escOk_no (by have := hh.out; omega)] at h1
        exact escPost_end (by rw [hE.out, h1]) (by rw [h2]) (by rw [h3]) (by simp [er]) hS3.out ((HF.out.trans (HS.out.gnew _)).trans hF3.out)
    | succ d =>
      have hdi : (0 : Int) < ((d + 1 : Nat) : Int) := by omega
      have hXs := Lib.hid (digTo_lt hD.out (by decide) (by omega))
      have hd8 : (d : Int) ≤ 8 := by have := hD.out.1; omega
      cases l' with
      | nil =>
        simp only [chOf] at hch2
        have HE := Lib.hid (digTo_eof hD.out)
        go_wp2_with fail
        go_ret
        obtain ⟨k, h1, h2, h3⟩ := HE.out
        exact escPost_end (by rw [hE.out, h1]) (by rw [h2]) (by rw [h3]) (by simp [er]) HS.out HF.out
      | cons c l'' =>
        simp only [chOf] at hch2
        have hc0 : ¬ (c : Int) < 0 := by omega
        have hcb : Hid (c < 2147483648) := by
          obtain ⟨_, _, h3, _⟩ := hD.out
          exact HL.out c (List.mem_of_mem_drop (h3 ▸ List.mem_cons_self))
        by_cases h1 : 48 ≤ c ∧ c ≤ 55
        · obtain ⟨h1, h2⟩ := h1
          have h1' : (48 : Int) ≤ c := by omega
          have h2' : (c : Int) ≤ 57 := by omega
          have hv := Lib.hid (dig_dec 8 c h1 (by omega))
          have hnx := Lib.hid (digTo_step hD.out (by rw [hv.out]; omega))
          have hw1 : IntKind.u32.wrap (c : Int) = (c : Int) := IntWalk.u32_in _ (by have := hcb.out; omega)
          have hw2 : IntKind.u32.wrap ((c : Int) - 48) = (c : Int) - 48 := IntWalk.u32_in _ (by have := hcb.out; omega)
          have hw3 : IntKind.u32.wrap ((X : Int) * 8) = (X : Int) * 8 := IntWalk.u32_in _ (by have := hXs.out; omega)
          have hw4 : IntKind.u32.wrap ((X : Int) * 8 + ((c : Int) - 48)) = (X : Int) * 8 + ((c : Int) - 48) := IntWalk.u32_in _ (by have := hXs.out; omega)
          have hw6 : ¬ (8 : Int) ≤ (c : Int) - 48 := by omega
          clear h1 h2
          go_wp2_with (first | (go_at_call 100; refine (isDecimal_yes c _ h1' h2').mono ?_; rintro en w3 ⟨rfl, rfl⟩) | (go_at_call 57; refine (next_sa E p' c l'' e _ HS.out).mono ?_; rintro en w3 ⟨rfl, hS3, hF3⟩; have hS3 := Lib.hid hS3; have hF3 := Lib.hid hF3))
          go_roundg (d + 5)
          case measure => omega
          case rel => exact ⟨d, X * 8 + digB 8 c, _, l'', _, rfl, u32_eq (by rw [hv.out]; omega), by go_num, rfl, hS3.out, HF.out.trans hF3.out, hnx.out⟩
        by_cases h2 : 56 ≤ c ∧ c ≤ 57
        · obtain ⟨h1, h2⟩ := h2
          have h1' : (48 : Int) ≤ c := by omega
          have h2' : (c : Int) ≤ 57 := by omega
          have hv := Lib.hid (dig_dec 8 c (by omega) h2)
          have hst := Lib.hid (digTo_stop hD.out (by rw [hv.out]; omega))
          have hw1 : IntKind.u32.wrap (c : Int) = (c : Int) := IntWalk.u32_in _ (by have := hcb.out; omega)
          have hw2 : IntKind.u32.wrap ((c : Int) - 48) = (c : Int) - 48 := IntWalk.u32_in _ (by have := hcb.out; omega)
          have hw6 : (8 : Int) ≤ (c : Int) - 48 := by omega
          clear h1 h2
          go_wp2_with (first | (go_at_call 100; refine (isDecimal_yes c _ h1' h2').mono ?_; rintro en w3 ⟨rfl, rfl⟩))
          go_region_held3 (fun w' => w'.cell? ⟨E.c.sb, 9, none⟩ = some (.int .i32 (c : Int))) (first | exact hch2 | exact d9 | go_keep)
            (first | (go_at_call 95; refine (baseName_calls _ _ (by decide)).mono ?_; rintro en w3 ⟨⟨mm, rfl⟩, rfl⟩) | (go_at_call 91; refine (errorf_sa E p' (c :: l'') e _ _ _ _ _ ((HS.out.new _).drewN 1) hn).mono ?_; rintro en w4 ⟨rfl, hS4, hF4⟩; have d9 := hS4.ch; have hS4 := Lib.hid hS4; have hF4 := Lib.hid hF4))
          go_wp2_with fail
          go_ret
          obtain ⟨k, h1, h2, h3⟩ := hst.out
          exact escPost_end (by rw [hE.out, h1]) (by rw [h2]) (by rw [h3]) (by simp [er]) hS4.out ((HF.out.trans ((HS.out.gnew _).drewN 1)).trans hF4.out)
        have h0 : ¬ (48 ≤ c ∧ c ≤ 57) := by omega
        clear h1 h2
        have hno : (c : Int) < 48 ∨ 57 < (c : Int) := by omega
        have hno := Lib.hid hno
        by_cases hl1 : 97 ≤ low c
        · have hl1' : (97 : Int) ≤ (low c : Int) := by omega
          by_cases hl2 : low c ≤ 102
          · have hl2' : (low c : Int) ≤ 102 := by omega
            have hv := Lib.hid (dig_low 8 c h0 hl1 hl2)
            have hst := Lib.hid (digTo_stop hD.out (by rw [hv.out]; omega))
            have hlb := Lib.hid (low_lt c hcb.out)
            have hw1 : IntKind.u32.wrap (low c : Int) = (low c : Int) := IntWalk.u32_in _ (by have := hlb.out; omega)
            have hw2 : IntKind.u32.wrap ((low c : Int) - 97) = (low c : Int) - 97 := IntWalk.u32_in _ (by have := hlb.out; omega)
            have hw5 : IntKind.u32.wrap ((low c : Int) - 97 + 10) = (low c : Int) - 97 + 10 := IntWalk.u32_in _ (by have := hlb.out; omega)
            have hw6 : (8 : Int) ≤ (low c : Int) - 97 + 10 := by omega
            clear h0 hl1 hl2
            go_wp2_with (first | (go_at_call 100; refine (isDecimal_no c _ hno.out).mono ?_; rintro en w3 ⟨rfl, rfl⟩) | (go_at_call 93; refine (lower_calls c _ hcb.out).mono ?_; rintro en w3 ⟨rfl, rfl⟩))
            go_region_held3 (fun w' => w'.cell? ⟨E.c.sb, 9, none⟩ = some (.int .i32 (c : Int))) (first | exact hch2 | exact d9 | go_keep)
              (first | (go_at_call 95; refine (baseName_calls _ _ (by decide)).mono ?_; rintro en w3 ⟨⟨mm, rfl⟩, rfl⟩) | (go_at_call 91; refine (errorf_sa E p' (c :: l'') e _ _ _ _ _ ((HS.out.new _).drewN 1) hn).mono ?_; rintro en w4 ⟨rfl, hS4, hF4⟩; have d9 := hS4.ch; have hS4 := Lib.hid hS4; have hF4 := Lib.hid hF4))
            go_wp2_with fail
            go_ret
            obtain ⟨k, h1, h2, h3⟩ := hst.out
            exact escPost_end (by rw [hE.out, h1]) (by rw [h2]) (by rw [h3]) (by simp [er]) hS4.out ((HF.out.trans ((HS.out.gnew _).drewN 1)).trans hF4.out)
          · have hl2' : ¬ (low c : Int) ≤ 102 := by omega
            have hv := Lib.hid (dig_not 8 c h0 (fun h => hl2 h.2))
            have hst := Lib.hid (digTo_stop hD.out (by rw [hv.out]; omega))
            clear h0 hl1 hl2
            go_wp2_with (first | (go_at_call 100; refine (isDecimal_no c _ hno.out).mono ?_; rintro en w3 ⟨rfl, rfl⟩) | (go_at_call 93; refine (lower_calls c _ hcb.out).mono ?_; rintro en w3 ⟨rfl, rfl⟩))
            go_region_held3 (fun w' => w'.cell? ⟨E.c.sb, 9, none⟩ = some (.int .i32 (c : Int))) (first | exact hch2 | exact d9 | go_keep)
              (first | (go_at_call 95; refine (baseName_calls _ _ (by decide)).mono ?_; rintro en w3 ⟨⟨mm, rfl⟩, rfl⟩) | (go_at_call 91; refine (errorf_sa E p' (c :: l'') e _ _ _ _ _ ((HS.out.new _).drewN 1) hn).mono ?_; rintro en w4 ⟨rfl, hS4, hF4⟩; have d9 := hS4.ch; have hS4 := Lib.hid hS4; have hF4 := Lib.hid hF4))
            go_wp2_with fail
            go_ret
            obtain ⟨k, h1, h2, h3⟩ := hst.out
            exact escPost_end (by rw [hE.out, h1]) (by rw [h2]) (by rw [h3]) (by simp [er]) hS4.out ((HF.out.trans ((HS.out.gnew _).drewN 1)).trans hF4.out)
        · have hl1' : ¬ (97 : Int) ≤ (low c : Int) := by omega
          have hv := Lib.hid (dig_not 8 c h0 (fun h => hl1 h.1))
          have hst := Lib.hid (digTo_stop hD.out (by rw [hv.out]; omega))
          clear h0 hl1
          go_wp2_with (first | (go_at_call 100; refine (isDecimal_no c _ hno.out).mono ?_; rintro en w3 ⟨rfl, rfl⟩) | (go_at_call 93; refine (lower_calls c _ hcb.out).mono ?_; rintro en w3 ⟨rfl, rfl⟩))
          go_region_held3 (fun w' => w'.cell? ⟨E.c.sb, 9, none⟩ = some (.int .i32 (c : Int))) (first | exact hch2 | exact d9 | go_keep)
            (first | (go_at_call 95; refine (baseName_calls _ _ (by decide)).mono ?_; rintro en w3 ⟨⟨mm, rfl⟩, rfl⟩) | (go_at_call 91; refine (errorf_sa E p' (c :: l'') e _ _ _ _ _ ((HS.out.new _).drewN 1) hn).mono ?_; rintro en w4 ⟨rfl, hS4, hF4⟩; have d9 := hS4.ch; have hS4 := Lib.hid hS4; have hF4 := Lib.hid hF4))
          go_wp2_with fail
          go_ret
          obtain ⟨k, h1, h2, h3⟩ := hst.out
          exact escPost_end (by rw [hE.out, h1]) (by rw [h2]) (by rw [h3]) (by simp [er]) hS4.out ((HF.out.trans ((HS.out.gnew _).drewN 1)).trans hF4.out)

set_option maxRecDepth 100000 in
set_option maxHeartbeats 4000000 in
theorem escape_o3 (E : Env) (q : Nat) (p : List UInt8) (l : List Nat) (e : Nat) (w : World) (hq : q = 34 ∨ q = 39) (hn : e < 100000) (h : SA w E p (51 :: l) e) :
    Calls Tryd.prog 90 #[.pointer (some ⟨E.c.sb, 0, none⟩), .int .i32 (q : Int)] w (EscPost E q p (51 :: l) e w) := by
  have hE : Hid (escE q (51 :: l) = digsE 8 255 3 0 (51 :: l)) := by
    show _ = _
    rw [escE_cons]; unfold escC
    rw [if_neg (by unfold simpleEsc; omega), if_pos ⟨by omega, by omega⟩]
  have HL : Hid (∀ x ∈ 51 :: l, x < 2147483648) := fun x hx => by
    rcases List.mem_cons.1 hx with rfl | hx
    · decide
    · have := h.ok x hx; unfold okR at this; omega
  have hch := h.ch
  have H := Lib.hid h
  simp only [chOf] at hch
  have tq : ((51 : Int) == (q : Int)) = false := by simp; omega
  clear h hq
  go_enter Tryd.func90, Tryd.ntmps90
  go_wp2_with fail
  go_loopg [8, 9, 10] 8 (fun g x i dd wr => ∃ (d X : Nat) (p' : List UInt8) (l' : List Nat) (d0 : Value), g = d + 5 ∧ x = .int .u32 X ∧ i = .int .i64 d ∧ dd = d0 ∧ SA wr E p' l' e ∧ GF E w wr ∧ Hid (DigTo 8 255 3 p (51 :: l) d X p' l'))
  case atStart => exact ⟨3, 0, _, _, _, rfl, rfl, rfl, rfl, H.out, (GF.refl E w), digTo_start _ _ _ _ _⟩
  case round =>
    obtain ⟨d, X, p', l', d0, rfl, rfl, rfl, rfl, hS, hF, hD⟩ := hrel
    have hch2 := hS.ch
    have HS := Lib.hid hS
    have HF := Lib.hid hF
    clear hS hF
    cases d with
    | zero =>
      have HE := Lib.hid (digTo_end hD.out)
      by_cases hX : X ≤ 255
      · have hh := Lib.hid hX
        have t1 : ¬ (255 : Int) < (X : Int) := by omega
        have t2 : ¬ (55296 : Int) ≤ (X : Int) := by omega
        clear hX
        go_wp2_with fail
        go_ret
        obtain ⟨k, h1, h2, h3, h4⟩ := HE.out
        rw [escOk_yes (by have := hh.out; omega)] at h1
        exact escPost_end (by rw [hE.out, h1]) (by rw [h2]) (by rw [h3]) (by simp [er]) HS.out HF.out
      · have hh := Lib.hid hX
        have t1 : (255 : Int) < (X : Int) := by omega
        clear hX
        go_wp2_with (go_at_call 91; refine (errorf_sa E p' l' e _ _ _ _ _ (HS.out.new _) hn).mono ?_; rintro en w3 ⟨rfl, hS3, hF3⟩; have hS3 := Lib.hid hS3; have hF3 := Lib.hid hF3)
        go_ret
        obtain ⟨k, h1, h2, h3, h4⟩ := HE.out
        rw [escOk_no (by have := hh.out; omega)] at h1
        exact escPost_end (by rw [hE.out, h1]) (by rw [h2]) (by rw [h3]) (by simp [er]) hS3.out ((HF.out.trans (HS.out.gnew _)).trans hF3.out)
    | succ d =>
      have hdi : (0 : Int) < ((d + 1 : Nat) : Int) := by omega
      have hXs := Lib.hid (digTo_lt hD.out (by decide) (by omega))
      have hd8 : (d : Int) ≤ 8 := by have := hD.out.1; omega
      cases l' with
      | nil =>
        simp only [chOf] at hch2
        have HE := Lib.hid (digTo_eof hD.out)
        go_wp2_with fail
        go_ret
        obtain ⟨k, h1, h2, h3⟩ := HE.out
        exact escPost_end (by rw [hE.out, h1]) (by rw [h2]) (by rw [h3]) (by simp [er]) HS.out HF.out
      | cons c l'' =>
        simp only [chOf] at hch2
        have hc0 : ¬ (c : Int) < 0 := by omega
        have hcb : Hid (c < 2147483648) := by
          obtain ⟨_, _, h3, _⟩ := hD.out
          exact HL.out c (List.mem_of_mem_drop (h3 ▸ List.mem_cons_self))
        by_cases h1 : 48 ≤ c ∧ c ≤ 55
        · obtain ⟨h1, h2⟩ := h1
          have h1' : (48 : Int) ≤ c := by omega
          have h2' : (c : Int) ≤ 57 := by omega
          have hv := Lib.hid (dig_dec 8 c h1 (by omega))
          have hnx := Lib.hid (digTo_step hD.out (by rw [hv.out]; omega))
          have hw1 : IntKind.u32.wrap (c : Int) = (c : Int) := IntWalk.u32_in _ (by have := hcb.out; omega)
          have hw2 : IntKind.u32.wrap ((c : Int) - 48) = (c : Int) - 48 := IntWalk.u32_in _ (by have := hcb.out; omega)
          have hw3 : IntKind.u32.wrap ((X : Int) * 8) = (X : Int) * 8 := IntWalk.u32_in _ (by have := hXs.out; omega)
          have hw4 : IntKind.u32.wrap ((X : Int) * 8 + ((c : Int) - 48)) = (X : Int) * 8 + ((c : Int) - 48) := IntWalk.u32_in _ (by have := hXs.out; omega)
          have hw6 : ¬ (8 : Int) ≤ (c : Int) - 48 := by omega
          clear h1 h2
          go_wp2_with (first | (go_at_call 100; refine (isDecimal_yes c _ h1' h2').mono ?_; rintro en w3 ⟨rfl, rfl⟩) | (go_at_call 57; refine (next_sa E p' c l'' e _ HS.out).mono ?_; rintro en w3 ⟨rfl, hS3, hF3⟩; have hS3 := Lib.hid hS3; have hF3 := Lib.hid hF3))
          go_roundg (d + 5)
          case measure => omega
          case rel => exact ⟨d, X * 8 + digB 8 c, _, l'', _, rfl, u32_eq (by rw [hv.out]; omega), by go_num, rfl, hS3.out, HF.out.trans hF3.out, hnx.out⟩
        by_cases h2 : 56 ≤ c ∧ c ≤ 57
        · obtain ⟨h1, h2⟩ := h2
          have h1' : (48 : Int) ≤ c := by omega
          have h2' : (c : Int) ≤ 57 := by omega
          have hv := Lib.hid (dig_dec 8 c (by omega) h2)
          have hst := Lib.hid (digTo_stop hD.out (by rw [hv.out]; omega))
          have hw1 : IntKind.u32.wrap (c : Int) = (c : Int) := IntWalk.u32_in _ (by have := hcb.out; omega)
          have hw2 : IntKind.u32.wrap ((c : Int) - 48) = (c : Int) - 48 := IntWalk.u32_in _ (by have := hcb.out; omega)
          have hw6 : (8 : Int) ≤ (c : Int) - 48 := by omega
          clear h1 h2
          go_wp2_with (first | (go_at_call 100; refine (isDecimal_yes c _ h1' h2').mono ?_; rintro en w3 ⟨rfl, rfl⟩))
          go_region_held3 (fun w' => w'.cell? ⟨E.c.sb, 9, none⟩ = some (.int .i32 (c : Int))) (first | exact hch2 | exact d9 | go_keep)
            (first | (go_at_call 95; refine (baseName_calls _ _ (by decide)).mono ?_; rintro en w3 ⟨⟨mm, rfl⟩, rfl⟩) | (go_at_call 91; refine (errorf_sa E p' (c :: l'') e _ _ _ _ _ ((HS.out.new _).drewN 1) hn).mono ?_; rintro en w4 ⟨rfl, hS4, hF4⟩; have d9 := hS4.ch; have hS4 := Lib.hid hS4; have hF4 := Lib.hid hF4))
          go_wp2_with fail
          go_ret
          obtain ⟨k, h1, h2, h3⟩ := hst.out
          exact escPost_end (by rw [hE.out, h1]) (by rw [h2]) (by rw [h3]) (by simp [er]) hS4.out ((HF.out.trans ((HS.out.gnew _).drewN 1)).trans hF4.out)
        have h0 : ¬ (48 ≤ c ∧ c ≤ 57) := by omega
        clear h1 h2
        have hno : (c : Int) < 48 ∨ 57 < (c : Int) := by omega
        have hno := Lib.hid hno
        by_cases hl1 : 97 ≤ low c
        · have hl1' : (97 : Int) ≤ (low c : Int) := by omega
          by_cases hl2 : low c ≤ 102
          · have hl2' : (low c : Int) ≤ 102 := by omega
            have hv := Lib.hid (dig_low 8 c h0 hl1 hl2)
            have hst := Lib.hid (digTo_stop hD.out (by rw [hv.out]; omega))
            have hlb := Lib.hid (low_lt c hcb.out)
            have hw1 : IntKind.u32.wrap (low c : Int) = (low c : Int) := IntWalk.u32_in _ (by have := hlb.out; omega)
            have hw2 : IntKind.u32.wrap ((low c : Int) - 97) = (low c : Int) - 97 := IntWalk.u32_in _ (by have := hlb.out; omega)
            have hw5 : IntKind.u32.wrap ((low c : Int) - 97 + 10) = (low c : Int) - 97 + 10 := IntWalk.u32_in _ (by have := hlb.out; omega)
            have hw6 : (8 : Int) ≤ (low c : Int) - 97 + 10 := by omega
            clear h0 hl1 hl2
            go_wp2_with (first | (go_at_call 100; refine (isDecimal_no c _ hno.out).mono ?_; rintro en w3 ⟨rfl, rfl⟩) | (go_at_call 93; refine (lower_calls c _ hcb.out).mono ?_; rintro en w3 ⟨rfl, rfl⟩))
            go_region_held3 (fun w' => w'.cell? ⟨E.c.sb, 9, none⟩ = some (.int .i32 (c : Int))) (first | exact hch2 | exact d9 | go_keep)
              (first | (go_at_call 95; refine (baseName_calls _ _ (by decide)).mono ?_; rintro en w3 ⟨⟨mm, rfl⟩, rfl⟩) | (go_at_call 91; refine (errorf_sa E p' (c :: l'') e _ _ _ _ _ ((HS.out.new _).drewN 1) hn).mono ?_; rintro en w4 ⟨rfl, hS4, hF4⟩; have d9 := hS4.ch; have hS4 := Lib.hid hS4; have hF4 := Lib.hid hF4))
            go_wp2_with fail
            go_ret
            obtain ⟨k, h1, h2, h3⟩ := hst.out
            exact escPost_end (by rw [hE.out, h1]) (by rw [h2]) (by rw [h3]) (by simp [er]) hS4.out ((HF.out.trans ((HS.out.gnew _).drewN 1)).trans hF4.out)
          · have hl2' : ¬ (low c : Int) ≤ 102 := by omega
            have hv := Lib.hid (dig_not 8 c h0 (fun h => hl2 h.2))
            have hst := Lib.hid (digTo_stop hD.out (by rw [hv.out]; omega))
            clear h0 hl1 hl2
            go_wp2_with (first | (go_at_call 100; refine (isDecimal_no c _ hno.out).mono ?_; rintro en w3 ⟨rfl, rfl⟩) | (go_at_call 93; refine (lower_calls c _ hcb.out).mono ?_; rintro en w3 ⟨rfl, rfl⟩))
            go_region_held3 (fun w' => w'.cell? ⟨E.c.sb, 9, none⟩ = some (.int .i32 (c : Int))) (first | exact hch2 | exact d9 | go_keep)
              (first | (go_at_call 95; refine (baseName_calls _ _ (by decide)).mono ?_; rintro en w3 ⟨⟨mm, rfl⟩, rfl⟩) | (go_at_call 91; refine (errorf_sa E p' (c :: l'') e _ _ _ _ _ ((HS.out.new _).drewN 1) hn).mono ?_; rintro en w4 ⟨rfl, hS4, hF4⟩; have d9 := hS4.ch; have hS4 := Lib.hid hS4; have hF4 := Lib.hid hF4))
            go_wp2_with fail
            go_ret
            obtain ⟨k, h1, h2, h3⟩ := hst.out
            exact escPost_end (by rw [hE.out, h1]) (by rw [h2]) (by rw [h3]) (by simp [er]) hS4.out ((HF.out.trans ((HS.out.gnew _).drewN 1)).trans hF4.out)
        · have hl1' : ¬ (97 : Int) ≤ (low c : Int) := by omega
          have hv := Lib.hid (dig_not 8 c h0 (fun h => hl1 h.1))
          have hst := Lib.hid (digTo_stop hD.out (by rw [hv.out]; omega))
          clear h0 hl1
          go_wp2_with (first | (go_at_call 100; refine (isDecimal_no c _ hno.out).mono ?_; rintro en w3 ⟨rfl, rfl⟩) | (go_at_call 93; refine (lower_calls c _ hcb.out).mono ?_; rintro en w3 ⟨rfl, rfl⟩))
          go_region_held3 (fun w' => w'.cell? ⟨E.c.sb, 9, none⟩ = some (.int .i32 (c : Int))) (first | exact hch2 | exact d9 | go_keep)
            (first | (go_at_call 95; refine (baseName_calls _ _ (by decide)).mono ?_; rintro en w3 ⟨⟨mm, rfl⟩, rfl⟩) | (go_at_call 91; refine (errorf_sa E p' (c :: l'') e _ _ _ _ _ ((HS.out.new _).drewN 1) hn).mono ?_; rintro en w4 ⟨rfl, hS4, hF4⟩; have d9 := hS4.ch; have hS4 := Lib.hid hS4; have hF4 := Lib.hid hF4))
          go_wp2_with fail
          go_ret
          obtain ⟨k, h1, h2, h3⟩ := hst.out
          exact escPost_end (by rw [hE.out, h1]) (by rw [h2]) (by rw [h3]) (by simp [er]) hS4.out ((HF.out.trans ((HS.out.gnew _).drewN 1)).trans hF4.out)
end Go.Proofs.YtnehkpoggkfikaaDoor

