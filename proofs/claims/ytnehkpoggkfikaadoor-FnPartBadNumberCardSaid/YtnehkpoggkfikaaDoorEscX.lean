/-
  The walks through escape where digits stand behind the backslash, and escape whole. Conditions: each law's own. (Printed by genescx.py.)
-/
import Derived.Test.YtnehkpoggkfikaaDoorEscW
namespace Go.Proofs.YtnehkpoggkfikaaDoor
open Go.RowKit
set_option linter.unusedVariables false
theorem SA.new {w : World} {E : Env} {p : List UInt8} {l : List Nat} {e : Nat} (h : SA w E p l e) (o : Obj) : SA (w.alloc o) E p l e := (h.below ((Below.refl _ _).alloc (Nat.le_refl _) o)).1
theorem SA.gnew {w : World} {E : Env} {p : List UInt8} {l : List Nat} {e : Nat} (h : SA w E p l e) (o : Obj) : GF E w (w.alloc o) := (h.below ((Below.refl _ _).alloc (Nat.le_refl _) o)).2
theorem u32_eq {a b : Int} (h : a = b) : Value.int .u32 a = .int .u32 b := by rw [h]
theorem dig_dec (base c : Nat) (h1 : 48 ≤ c) (h2 : c ≤ 57) : digB base c = c - 48 := by unfold digB; rw [if_pos ⟨h1, h2⟩]
theorem dig_low (base c : Nat) (h : ¬ (48 ≤ c ∧ c ≤ 57)) (h1 : 97 ≤ low c) (h2 : low c ≤ 102) : digB base c = low c - 97 + 10 := by
  have h3 := (low_in c 97 102 (by decide) (by decide)).1 ⟨h1, h2⟩
  have h4 := low_small ⟨c, by omega⟩
  simp only at h4
  unfold digB
  rw [if_neg h, h4]
  repeat' split
  all_goals omega
theorem dig_not (base c : Nat) (h : ¬ (48 ≤ c ∧ c ≤ 57)) (h1 : ¬ (97 ≤ low c ∧ low c ≤ 102)) : digB base c = base := by
  have h3 := mt (low_in c 97 102 (by decide) (by decide)).2 h1
  unfold digB
  rw [if_neg h, if_neg (by omega), if_neg (by omega)]
theorem escOk_yes {mx X : Nat} (h : X ≤ mx ∧ (X < 55296 ∨ 57344 ≤ X)) : escOk mx X = true := decide_eq_true h
theorem escOk_no {mx X : Nat} (h : ¬ (X ≤ mx ∧ (X < 55296 ∨ 57344 ≤ X))) : escOk mx X = false := decide_eq_false h

set_option maxRecDepth 100000 in
set_option maxHeartbeats 4000000 in
theorem escape_x (E : Env) (q : Nat) (p : List UInt8) (l : List Nat) (e : Nat) (w : World) (hq : q = 34 ∨ q = 39) (hn : e < 100000) (h : SA w E p (120 :: l) e) :
    Calls Tryd.prog 90 #[.pointer (some ⟨E.c.sb, 0, none⟩), .int .i32 (q : Int)] w (EscPost E q p (120 :: l) e w) := by
  have hE : Hid (escE q (120 :: l) = ((digsE 16 255 2 0 l).1 + 1, (digsE 16 255 2 0 l).2)) := by
    show _ = _
    rw [escE_cons]; unfold escC
    rw [if_neg (by unfold simpleEsc; omega), if_neg (by omega), if_pos rfl]
  have HL : Hid (∀ x ∈ l, x < 2147483648) := fun x hx => by have := h.ok x hx; unfold okR at this; omega
  have hch := h.ch
  have H := Lib.hid h
  simp only [chOf] at hch
  have tq : ((120 : Int) == (q : Int)) = false := by simp; omega
  clear h hq
  go_enter Tryd.func90, Tryd.ntmps90
  go_wp2_with (go_at_call 57; refine (next_sa E p 120 l e _ H.out).mono ?_; rintro en w2 ⟨rfl, hS, hF⟩; have hS2 := Lib.hid hS; have hF2 := Lib.hid hF; clear hS hF)
  go_loopg [8, 9, 10] 7 (fun g x i dd wr => ∃ (d X : Nat) (p' : List UInt8) (l' : List Nat) (d0 : Value), g = d + 5 ∧ x = .int .u32 X ∧ i = .int .i64 d ∧ dd = d0 ∧ SA wr E p' l' e ∧ GF E w wr ∧ Hid (DigTo 16 255 2 (p ++ enc 120) l d X p' l'))
  case atStart => exact ⟨2, 0, _, _, _, rfl, rfl, rfl, rfl, hS2.out, hF2.out, digTo_start _ _ _ _ _⟩
  case round =>
    obtain ⟨d, X, p', l', d0, rfl, rfl, rfl, rfl, hS, hF, hD⟩ := hrel
    have hch2 := hS.ch
    have HS := Lib.hid hS
    have HF := Lib.hid hF
    clear hS hF
    cases d with
    | zero =>
      have HE := Lib.hid (digTo_end hD.out)
      have hX : (X : Int) ≤ 255 := by
        obtain ⟨k, -, -, -, h⟩ := digTo_end hD.out
        omega
      have hh : Hid (X ≤ 255) := by show X ≤ 255; omega
      · skip
        go_wp2_with fail
        go_ret
        obtain ⟨k, h1, h2, h3, h4⟩ := HE.out
        rw [escOk_yes (by have := hh.out; omega)] at h1
        exact escPost_end (by rw [hE.out, h1]) (by rw [h2]; simp [encs]) (by rw [h3]; simp) (by simp [er]) HS.out HF.out
    | succ d =>
      have hdi : (0 : Int) < ((d + 1 : Nat) : Int) := by omega
      have hXs := Lib.hid (digTo_lt hD.out (by decide) (by omega))
      have hd8 : (d : Int) ≤ 8 := by have := hD.out.1; omega
      cases l' with
      | nil =>
        simp only [chOf] at hch2
        have HE := Lib.hid (digTo_eof hD.out)
        go_wp2_with fail
        go_ret
        obtain ⟨k, h1, h2, h3⟩ := HE.out
        exact escPost_end (by rw [hE.out, h1]) (by rw [h2]; simp [encs]) (by rw [h3]; simp) (by simp [er]) HS.out HF.out
      | cons c l'' =>
        simp only [chOf] at hch2
        have hc0 : ¬ (c : Int) < 0 := by omega
        have hcb : Hid (c < 2147483648) := by
          obtain ⟨_, _, h3, _⟩ := hD.out
          exact HL.out c (List.mem_of_mem_drop (h3 ▸ List.mem_cons_self))
        by_cases h1 : 48 ≤ c ∧ c ≤ 57
        · obtain ⟨h1, h2⟩ := h1
          have h1' : (48 : Int) ≤ c := by omega
          have h2' : (c : Int) ≤ 57 := by omega
          have hv := Lib.hid (dig_dec 16 c h1 (by omega))
          have hnx := Lib.hid (digTo_step hD.out (by rw [hv.out]; omega))
          have hw1 : IntKind.u32.wrap (c : Int) = (c : Int) := IntWalk.u32_in _ (by have := hcb.out; omega)
          have hw2 : IntKind.u32.wrap ((c : Int) - 48) = (c : Int) - 48 := IntWalk.u32_in _ (by have := hcb.out; omega)
          have hw3 : IntKind.u32.wrap ((X : Int) * 16) = (X : Int) * 16 := IntWalk.u32_in _ (by have := hXs.out; omega)
          have hw4 : IntKind.u32.wrap ((X : Int) * 16 + ((c : Int) - 48)) = (X : Int) * 16 + ((c : Int) - 48) := IntWalk.u32_in _ (by have := hXs.out; omega)
          have hw6 : ¬ (16 : Int) ≤ (c : Int) - 48 := by omega
          clear h1 h2
          go_wp2_with (first | (go_at_call 100; refine (isDecimal_yes c _ h1' h2').mono ?_; rintro en w3 ⟨rfl, rfl⟩) | (go_at_call 57; refine (next_sa E p' c l'' e _ HS.out).mono ?_; rintro en w3 ⟨rfl, hS3, hF3⟩; have hS3 := Lib.hid hS3; have hF3 := Lib.hid hF3))
          go_roundg (d + 5)
          case measure => omega
          case rel => exact ⟨d, X * 16 + digB 16 c, _, l'', _, rfl, u32_eq (by rw [hv.out]; omega), by go_num, rfl, hS3.out, HF.out.trans hF3.out, hnx.out⟩
        have h0 : ¬ (48 ≤ c ∧ c ≤ 57) := h1
        clear h1
        have hno : (c : Int) < 48 ∨ 57 < (c : Int) := by omega
        have hno := Lib.hid hno
        by_cases hl1 : 97 ≤ low c
        · have hl1' : (97 : Int) ≤ (low c : Int) := by omega
          by_cases hl2 : low c ≤ 102
          · have hl2' : (low c : Int) ≤ 102 := by omega
            have hv := Lib.hid (dig_low 16 c h0 hl1 hl2)
            have hnx := Lib.hid (digTo_step hD.out (by rw [hv.out]; omega))
            have hlb := Lib.hid (low_lt c hcb.out)
            have hw1 : IntKind.u32.wrap (low c : Int) = (low c : Int) := IntWalk.u32_in _ (by have := hlb.out; omega)
            have hw2 : IntKind.u32.wrap ((low c : Int) - 97) = (low c : Int) - 97 := IntWalk.u32_in _ (by have := hlb.out; omega)
            have hw5 : IntKind.u32.wrap ((low c : Int) - 97 + 10) = (low c : Int) - 97 + 10 := IntWalk.u32_in _ (by have := hlb.out; omega)
            have hw3 : IntKind.u32.wrap ((X : Int) * 16) = (X : Int) * 16 := IntWalk.u32_in _ (by have := hXs.out; omega)
            have hw4 : IntKind.u32.wrap ((X : Int) * 16 + ((low c : Int) - 97 + 10)) = (X : Int) * 16 + ((low c : Int) - 97 + 10) := IntWalk.u32_in _ (by have := hXs.out; omega)
            have hw6 : ¬ (16 : Int) ≤ (low c : Int) - 97 + 10 := by omega
            clear h0 hl1 hl2
            go_wp2_with (first | (go_at_call 100; refine (isDecimal_no c _ hno.out).mono ?_; rintro en w3 ⟨rfl, rfl⟩) | (go_at_call 93; refine (lower_calls c _ hcb.out).mono ?_; rintro en w3 ⟨rfl, rfl⟩) | (go_at_call 57; refine (next_sa E p' c l'' e _ HS.out).mono ?_; rintro en w3 ⟨rfl, hS3, hF3⟩; have hS3 := Lib.hid hS3; have hF3 := Lib.hid hF3))
            go_roundg (d + 5)
            case measure => omega
            case rel => exact ⟨d, X * 16 + digB 16 c, _, l'', _, rfl, u32_eq (by rw [hv.out]; omega), by go_num, rfl, hS3.out, HF.out.trans hF3.out, hnx.out⟩
          · have hl2' : ¬ (low c : Int) ≤ 102 := by omega
            have hv := Lib.hid (dig_not 16 c h0 (fun h => hl2 h.2))
            have hst := Lib.hid (digTo_stop hD.out (by rw [hv.out]; omega))
            clear h0 hl1 hl2
            go_wp2_with (first | (go_at_call 100; refine (isDecimal_no c _ hno.out).mono ?_; rintro en w3 ⟨rfl, rfl⟩) | (go_at_call 93; refine (lower_calls c _ hcb.out).mono ?_; rintro en w3 ⟨rfl, rfl⟩))
            go_region_held3 (fun w' => w'.cell? ⟨E.c.sb, 9, none⟩ = some (.int .i32 (c : Int))) (first | exact hch2 | exact d9 | go_keep)
              (first | (go_at_call 95; refine (baseName_calls _ _ (by decide)).mono ?_; rintro en w3 ⟨⟨mm, rfl⟩, rfl⟩) | (go_at_call 91; refine (errorf_sa E p' (c :: l'') e _ _ _ _ _ ((HS.out.new _).drewN 1) hn).mono ?_; rintro en w4 ⟨rfl, hS4, hF4⟩; have d9 := hS4.ch; have hS4 := Lib.hid hS4; have hF4 := Lib.hid hF4))
            go_wp2_with fail
            go_ret
            obtain ⟨k, h1, h2, h3⟩ := hst.out
            exact escPost_end (by rw [hE.out, h1]) (by rw [h2]; simp [encs]) (by rw [h3]; simp) (by simp [er]) hS4.out ((HF.out.trans ((HS.out.gnew _).drewN 1)).trans hF4.out)
        · have hl1' : ¬ (97 : Int) ≤ (low c : Int) := by omega
          have hv := Lib.hid (dig_not 16 c h0 (fun h => hl1 h.1))
          have hst := Lib.hid (digTo_stop hD.out (by rw [hv.out]; omega))
          clear h0 hl1
          go_wp2_with (first | (go_at_call 100; refine (isDecimal_no c _ hno.out).mono ?_; rintro en w3 ⟨rfl, rfl⟩) | (go_at_call 93; refine (lower_calls c _ hcb.out).mono ?_; rintro en w3 ⟨rfl, rfl⟩))
          go_region_held3 (fun w' => w'.cell? ⟨E.c.sb, 9, none⟩ = some (.int .i32 (c : Int))) (first | exact hch2 | exact d9 | go_keep)
            (first | (go_at_call 95; refine (baseName_calls _ _ (by decide)).mono ?_; rintro en w3 ⟨⟨mm, rfl⟩, rfl⟩) | (go_at_call 91; refine (errorf_sa E p' (c :: l'') e _ _ _ _ _ ((HS.out.new _).drewN 1) hn).mono ?_; rintro en w4 ⟨rfl, hS4, hF4⟩; have d9 := hS4.ch; have hS4 := Lib.hid hS4; have hF4 := Lib.hid hF4))
          go_wp2_with fail
          go_ret
          obtain ⟨k, h1, h2, h3⟩ := hst.out
          exact escPost_end (by rw [hE.out, h1]) (by rw [h2]; simp [encs]) (by rw [h3]; simp) (by simp [er]) hS4.out ((HF.out.trans ((HS.out.gnew _).drewN 1)).trans hF4.out)
end Go.Proofs.YtnehkpoggkfikaaDoor

