/-
  The walks through the place of a low line (invalidSep): it returns an answer as the plain law has it, and writes nothing. Condition: the text is no longer than the model's longest.
-/
import Derived.Test.YtnehkpoggkfikaaProg
import Derived.Test.YtnehkpoggkfikaaSepPlain
import Derived.WalkSpells
import Derived.WalkLawsBesides
import Derived.Outline
import Derived.Lib.Hide
import Derived.Deep.LoopGhost
namespace Go.Proofs.Ytnehkpoggkfikaa
open Go.RowKit
set_option linter.unusedVariables false

theorem ret_bool {a b : Bool} (h : a = b) : Ending.returned (.bool a) = .returned (.bool b) := by rw [h]

theorem isDec_any (c : Int) (b : Bool) (w : World) (h : decB c = b) :
    Calls Try.prog 10 #[.int .i32 c] w fun e w' => e = .returned (.bool b) ∧ w = w' := by
  unfold decB at h
  have H := Lib.hid h; clear h
  by_cases h1 : 48 ≤ c
  all_goals
    go_enter Try.func10, Try.ntmps10
    go_wp2
    go_ret
    exact ⟨ret_bool (by rw [← H.out]; simp [h1]; try omega), rfl⟩
theorem isHex_any (c : Int) (b : Bool) (w : World) (h : hexB c = b) :
    Calls Try.prog 11 #[.int .i32 c] w fun e w' => e = .returned (.bool b) ∧ w = w' := by
  unfold hexB at h
  have hl : bits BinOp.or .i32 32 c = lowZ c := rfl
  generalize lowZ c = l at *
  have H := Lib.hid h; clear h
  by_cases h1 : 48 ≤ c <;> by_cases h2 : c ≤ 57 <;> by_cases h3 : 97 ≤ l
  all_goals
    go_enter Try.func11, Try.ntmps11
    go_wp2
    go_ret
    exact ⟨ret_bool (by rw [← H.out]; simp [h1, h2, h3]; try omega), rfl⟩

set_option maxHeartbeats 2000000 in
theorem sep_hex (s : ByteArray) (w : World) (hs : s.size ≤ maxLen) (h2 : 1 < s.size) (c0 c1 : Int) (h0 : (s[0].toNat : Int) = c0) (h1 : (s[1].toNat : Int) = c1) (e0 : (c0 == 48) = true) (b0 : 0 ≤ c1) (b1 : c1 < 256) (x : Int) (hx : bits BinOp.or IntKind.i32 32 c1 = x) (hc : (x == 120) = true) (H : Hid (Head s true 2 48)) :
    Calls Try.prog 8 #[.string s] w fun e w' => (∃ k, e = .returned (.int .i64 k) ∧ Answer s true 2 k) ∧ w = w' := by
  unfold maxLen at hs
  have h2' : (2:Int) ≤ (s.size : Int) := by omega
  go_enter Try.func8, Try.ntmps8
  go_wp2
  go_loopg [4, 5] (s.size - 2) (fun g d i wr => wr = w ∧ ∃ k : Nat, g = s.size - k ∧ 2 ≤ k ∧ k ≤ s.size ∧ i = .int .i64 k ∧ d = .int .i32 (dAt s true 2 48 k) ∧ Hid (okTo s true 2 48 k))
  case atStart => exact ⟨rfl, 2, rfl, by omega, by omega, rfl, by rw [dAt_start], okTo_start _ _ _ _⟩
  case round =>
    obtain ⟨rfl, k, rfl, hk, hkn, rfl, rfl, hok⟩ := hrel
    have hd := dAt_cases s true 2 48 k (by simp)
    have her := Lib.hid (end_right H.out hk hkn)
    by_cases hlt : k < s.size
    · have hb := byteAt_lt s k
      obtain ⟨hb0, hb1⟩ := hb
      have hg := byteAt_get s k hlt
      have hn := Lib.hid (dAt_next s true 2 48 k hk)
      have hel := Lib.hid (end_left H.out hk hlt)
      have hon := Lib.hid (okTo_next hok.out)
      generalize dAt s true 2 48 k = d at *
      generalize byteAt s k = c at *
      have hk' : (k : Int) < (s.size : Int) := by omega
      by_cases h95 : c = 95
      · have t1 : (c == 95) = true := by simp [h95]
        have C95 := Lib.hid h95; clear h95
        rcases hd with rfl | rfl | rfl
        · go_wp2
          go_ret
          exact ⟨⟨_, rfl, hel.out C95.out (by decide)⟩, rfl⟩
        · go_wp2
          go_roundg (s.size - (k + 1))
          case measure => omega
          case rel => exact ⟨rfl, k + 1, rfl, by omega, by omega, by go_num, by rw [hn.out, C95.out]; rfl, hon.out (fun _ => by trivial) (fun h => absurd C95.out h)⟩
        · go_wp2
          go_ret
          exact ⟨⟨_, rfl, hel.out C95.out (by decide)⟩, rfl⟩
      · have t1 : (c == 95) = false := by simp [h95]
        have N95 := Lib.hid h95; clear h95
        cases hdec : decB c with
        | true =>
          have hdg : digB true c = true := by simp [digB, hdec]
          have DG := Lib.hid hdg; clear hdg
          rcases hd with rfl | rfl | rfl
          all_goals
            go_wp2_with (go_at_call 10; refine (isDec_any c true _ hdec).mono ?_; rintro e w' ⟨rfl, rfl⟩)
            go_roundg (s.size - (k + 1))
            case measure => omega
            case rel => exact ⟨rfl, k + 1, rfl, by omega, by omega, by go_num, by rw [hn.out, cls, if_neg N95.out, if_pos DG.out], hon.out (fun h => absurd h N95.out) (fun _ h => absurd (DG.out.symm.trans h) (by decide))⟩
        | false =>
          cases hhex : hexB c with
          | true =>
            have hdg : digB true c = true := by simp [digB, hhex]
            have DG := Lib.hid hdg; clear hdg
            rcases hd with rfl | rfl | rfl
            all_goals
              go_wp2_with (first | (go_at_call 10; refine (isDec_any c false _ hdec).mono ?_; rintro e w' ⟨rfl, rfl⟩) | (go_at_call 11; refine (isHex_any c true _ hhex).mono ?_; rintro e w' ⟨rfl, rfl⟩))
              go_roundg (s.size - (k + 1))
              case measure => omega
              case rel => exact ⟨rfl, k + 1, rfl, by omega, by omega, by go_num, by rw [hn.out, cls, if_neg N95.out, if_pos DG.out], hon.out (fun h => absurd h N95.out) (fun _ h => absurd (DG.out.symm.trans h) (by decide))⟩
          | false =>
            have hdg : digB true c = false := by simp [digB, hdec, hhex]
            have DG := Lib.hid hdg; clear hdg
            rcases hd with rfl | rfl | rfl
            · go_wp2_with (first | (go_at_call 10; refine (isDec_any c false _ hdec).mono ?_; rintro e w' ⟨rfl, rfl⟩) | (go_at_call 11; refine (isHex_any c false _ hhex).mono ?_; rintro e w' ⟨rfl, rfl⟩))
              go_ret
              exact ⟨⟨_, rfl, (her.out (by trivial) (.inr ⟨N95.out, DG.out⟩)).2⟩, rfl⟩
            all_goals
              go_wp2_with (first | (go_at_call 10; refine (isDec_any c false _ hdec).mono ?_; rintro e w' ⟨rfl, rfl⟩) | (go_at_call 11; refine (isHex_any c false _ hhex).mono ?_; rintro e w' ⟨rfl, rfl⟩))
              go_roundg (s.size - (k + 1))
              case measure => omega
              case rel => exact ⟨rfl, k + 1, rfl, by omega, by omega, by go_num, by rw [hn.out, cls, if_neg N95.out, if_neg (by rw [DG.out]; decide)], hon.out (fun h => absurd h N95.out) (fun _ _ => by decide)⟩
    · obtain rfl : k = s.size := by omega
      have heo := Lib.hid (end_ok H.out hok.out)
      generalize dAt s true 2 48 s.size = d at *
      rcases hd with rfl | rfl | rfl
      · have hp := her.out (by trivial) (.inl rfl)
        obtain ⟨hp0, HA⟩ := hp
        have HA := Lib.hid HA
        go_wp2
        go_ret
        exact ⟨⟨_, rfl, HA.out⟩, rfl⟩
      all_goals
        go_wp2
        go_ret
        exact ⟨⟨_, rfl, heo.out (by decide)⟩, rfl⟩

set_option maxHeartbeats 2000000 in
theorem sep_oct (s : ByteArray) (w : World) (hs : s.size ≤ maxLen) (h2 : 1 < s.size) (c0 c1 : Int) (h0 : (s[0].toNat : Int) = c0) (h1 : (s[1].toNat : Int) = c1) (e0 : (c0 == 48) = true) (b0 : 0 ≤ c1) (b1 : c1 < 256) (x : Int) (hx : bits BinOp.or IntKind.i32 32 c1 = x) (hc : (x == 120) = false) (ho : (x == 111) = true) (H : Hid (Head s false 2 48)) :
    Calls Try.prog 8 #[.string s] w fun e w' => (∃ k, e = .returned (.int .i64 k) ∧ Answer s false 2 k) ∧ w = w' := by
  unfold maxLen at hs
  have h2' : (2:Int) ≤ (s.size : Int) := by omega
  go_enter Try.func8, Try.ntmps8
  go_wp2
  go_loopg [4, 5] (s.size - 2) (fun g d i wr => wr = w ∧ ∃ k : Nat, g = s.size - k ∧ 2 ≤ k ∧ k ≤ s.size ∧ i = .int .i64 k ∧ d = .int .i32 (dAt s false 2 48 k) ∧ Hid (okTo s false 2 48 k))
  case atStart => exact ⟨rfl, 2, rfl, by omega, by omega, rfl, by rw [dAt_start], okTo_start _ _ _ _⟩
  case round =>
    obtain ⟨rfl, k, rfl, hk, hkn, rfl, rfl, hok⟩ := hrel
    have hd := dAt_cases s false 2 48 k (by simp)
    have her := Lib.hid (end_right H.out hk hkn)
    by_cases hlt : k < s.size
    · have hb := byteAt_lt s k
      obtain ⟨hb0, hb1⟩ := hb
      have hg := byteAt_get s k hlt
      have hn := Lib.hid (dAt_next s false 2 48 k hk)
      have hel := Lib.hid (end_left H.out hk hlt)
      have hon := Lib.hid (okTo_next hok.out)
      generalize dAt s false 2 48 k = d at *
      generalize byteAt s k = c at *
      have hk' : (k : Int) < (s.size : Int) := by omega
      by_cases h95 : c = 95
      · have t1 : (c == 95) = true := by simp [h95]
        have C95 := Lib.hid h95; clear h95
        rcases hd with rfl | rfl | rfl
        · go_wp2
          go_ret
          exact ⟨⟨_, rfl, hel.out C95.out (by decide)⟩, rfl⟩
        · go_wp2
          go_roundg (s.size - (k + 1))
          case measure => omega
          case rel => exact ⟨rfl, k + 1, rfl, by omega, by omega, by go_num, by rw [hn.out, C95.out]; rfl, hon.out (fun _ => by trivial) (fun h => absurd C95.out h)⟩
        · go_wp2
          go_ret
          exact ⟨⟨_, rfl, hel.out C95.out (by decide)⟩, rfl⟩
      · have t1 : (c == 95) = false := by simp [h95]
        have N95 := Lib.hid h95; clear h95
        cases hdec : decB c with
        | true =>
          have hdg : digB false c = true := by simp [digB, hdec]
          have DG := Lib.hid hdg; clear hdg
          rcases hd with rfl | rfl | rfl
          all_goals
            go_wp2_with (go_at_call 10; refine (isDec_any c true _ hdec).mono ?_; rintro e w' ⟨rfl, rfl⟩)
            go_roundg (s.size - (k + 1))
            case measure => omega
            case rel => exact ⟨rfl, k + 1, rfl, by omega, by omega, by go_num, by rw [hn.out, cls, if_neg N95.out, if_pos DG.out], hon.out (fun h => absurd h N95.out) (fun _ h => absurd (DG.out.symm.trans h) (by decide))⟩
        | false =>
          have hdg : digB false c = false := by simp [digB, hdec]
          have DG := Lib.hid hdg; clear hdg
          rcases hd with rfl | rfl | rfl
          · go_wp2_with (first | (go_at_call 10; refine (isDec_any c false _ hdec).mono ?_; rintro e w' ⟨rfl, rfl⟩))
            go_ret
            exact ⟨⟨_, rfl, (her.out (by trivial) (.inr ⟨N95.out, DG.out⟩)).2⟩, rfl⟩
          all_goals
            go_wp2_with (first | (go_at_call 10; refine (isDec_any c false _ hdec).mono ?_; rintro e w' ⟨rfl, rfl⟩))
            go_roundg (s.size - (k + 1))
            case measure => omega
            case rel => exact ⟨rfl, k + 1, rfl, by omega, by omega, by go_num, by rw [hn.out, cls, if_neg N95.out, if_neg (by rw [DG.out]; decide)], hon.out (fun h => absurd h N95.out) (fun _ _ => by decide)⟩
    · obtain rfl : k = s.size := by omega
      have heo := Lib.hid (end_ok H.out hok.out)
      generalize dAt s false 2 48 s.size = d at *
      rcases hd with rfl | rfl | rfl
      · have hp := her.out (by trivial) (.inl rfl)
        obtain ⟨hp0, HA⟩ := hp
        have HA := Lib.hid HA
        go_wp2
        go_ret
        exact ⟨⟨_, rfl, HA.out⟩, rfl⟩
      all_goals
        go_wp2
        go_ret
        exact ⟨⟨_, rfl, heo.out (by decide)⟩, rfl⟩

set_option maxHeartbeats 2000000 in
theorem sep_bin (s : ByteArray) (w : World) (hs : s.size ≤ maxLen) (h2 : 1 < s.size) (c0 c1 : Int) (h0 : (s[0].toNat : Int) = c0) (h1 : (s[1].toNat : Int) = c1) (e0 : (c0 == 48) = true) (b0 : 0 ≤ c1) (b1 : c1 < 256) (x : Int) (hx : bits BinOp.or IntKind.i32 32 c1 = x) (hc : (x == 120) = false) (ho : (x == 111) = false) (hb : (x == 98) = true) (H : Hid (Head s false 2 48)) :
    Calls Try.prog 8 #[.string s] w fun e w' => (∃ k, e = .returned (.int .i64 k) ∧ Answer s false 2 k) ∧ w = w' := by
  unfold maxLen at hs
  have h2' : (2:Int) ≤ (s.size : Int) := by omega
  go_enter Try.func8, Try.ntmps8
  go_wp2
  go_loopg [4, 5] (s.size - 2) (fun g d i wr => wr = w ∧ ∃ k : Nat, g = s.size - k ∧ 2 ≤ k ∧ k ≤ s.size ∧ i = .int .i64 k ∧ d = .int .i32 (dAt s false 2 48 k) ∧ Hid (okTo s false 2 48 k))
  case atStart => exact ⟨rfl, 2, rfl, by omega, by omega, rfl, by rw [dAt_start], okTo_start _ _ _ _⟩
  case round =>
    obtain ⟨rfl, k, rfl, hk, hkn, rfl, rfl, hok⟩ := hrel
    have hd := dAt_cases s false 2 48 k (by simp)
    have her := Lib.hid (end_right H.out hk hkn)
    by_cases hlt : k < s.size
    · have hb := byteAt_lt s k
      obtain ⟨hb0, hb1⟩ := hb
      have hg := byteAt_get s k hlt
      have hn := Lib.hid (dAt_next s false 2 48 k hk)
      have hel := Lib.hid (end_left H.out hk hlt)
      have hon := Lib.hid (okTo_next hok.out)
      generalize dAt s false 2 48 k = d at *
      generalize byteAt s k = c at *
      have hk' : (k : Int) < (s.size : Int) := by omega
      by_cases h95 : c = 95
      · have t1 : (c == 95) = true := by simp [h95]
        have C95 := Lib.hid h95; clear h95
        rcases hd with rfl | rfl | rfl
        · go_wp2
          go_ret
          exact ⟨⟨_, rfl, hel.out C95.out (by decide)⟩, rfl⟩
        · go_wp2
          go_roundg (s.size - (k + 1))
          case measure => omega
          case rel => exact ⟨rfl, k + 1, rfl, by omega, by omega, by go_num, by rw [hn.out, C95.out]; rfl, hon.out (fun _ => by trivial) (fun h => absurd C95.out h)⟩
        · go_wp2
          go_ret
          exact ⟨⟨_, rfl, hel.out C95.out (by decide)⟩, rfl⟩
      · have t1 : (c == 95) = false := by simp [h95]
        have N95 := Lib.hid h95; clear h95
        cases hdec : decB c with
        | true =>
          have hdg : digB false c = true := by simp [digB, hdec]
          have DG := Lib.hid hdg; clear hdg
          rcases hd with rfl | rfl | rfl
          all_goals
            go_wp2_with (go_at_call 10; refine (isDec_any c true _ hdec).mono ?_; rintro e w' ⟨rfl, rfl⟩)
            go_roundg (s.size - (k + 1))
            case measure => omega
            case rel => exact ⟨rfl, k + 1, rfl, by omega, by omega, by go_num, by rw [hn.out, cls, if_neg N95.out, if_pos DG.out], hon.out (fun h => absurd h N95.out) (fun _ h => absurd (DG.out.symm.trans h) (by decide))⟩
        | false =>
          have hdg : digB false c = false := by simp [digB, hdec]
          have DG := Lib.hid hdg; clear hdg
          rcases hd with rfl | rfl | rfl
          · go_wp2_with (first | (go_at_call 10; refine (isDec_any c false _ hdec).mono ?_; rintro e w' ⟨rfl, rfl⟩))
            go_ret
            exact ⟨⟨_, rfl, (her.out (by trivial) (.inr ⟨N95.out, DG.out⟩)).2⟩, rfl⟩
          all_goals
            go_wp2_with (first | (go_at_call 10; refine (isDec_any c false _ hdec).mono ?_; rintro e w' ⟨rfl, rfl⟩))
            go_roundg (s.size - (k + 1))
            case measure => omega
            case rel => exact ⟨rfl, k + 1, rfl, by omega, by omega, by go_num, by rw [hn.out, cls, if_neg N95.out, if_neg (by rw [DG.out]; decide)], hon.out (fun h => absurd h N95.out) (fun _ _ => by decide)⟩
    · obtain rfl : k = s.size := by omega
      have heo := Lib.hid (end_ok H.out hok.out)
      generalize dAt s false 2 48 s.size = d at *
      rcases hd with rfl | rfl | rfl
      · have hp := her.out (by trivial) (.inl rfl)
        obtain ⟨hp0, HA⟩ := hp
        have HA := Lib.hid HA
        go_wp2
        go_ret
        exact ⟨⟨_, rfl, HA.out⟩, rfl⟩
      all_goals
        go_wp2
        go_ret
        exact ⟨⟨_, rfl, heo.out (by decide)⟩, rfl⟩

set_option maxHeartbeats 2000000 in
theorem sep_none (s : ByteArray) (w : World) (hs : s.size ≤ maxLen) (h2 : 1 < s.size) (c0 c1 : Int) (h0 : (s[0].toNat : Int) = c0) (h1 : (s[1].toNat : Int) = c1) (e0 : (c0 == 48) = true) (b0 : 0 ≤ c1) (b1 : c1 < 256) (x : Int) (hx : bits BinOp.or IntKind.i32 32 c1 = x) (hc : (x == 120) = false) (ho : (x == 111) = false) (hb : (x == 98) = false) (H : Hid (Head s false 0 46)) :
    Calls Try.prog 8 #[.string s] w fun e w' => (∃ k, e = .returned (.int .i64 k) ∧ Answer s false 0 k) ∧ w = w' := by
  unfold maxLen at hs
  have h2' : (2:Int) ≤ (s.size : Int) := by omega
  go_enter Try.func8, Try.ntmps8
  go_wp2
  go_loopg [4, 5] (s.size - 0) (fun g d i wr => wr = w ∧ ∃ k : Nat, g = s.size - k ∧ 0 ≤ k ∧ k ≤ s.size ∧ i = .int .i64 k ∧ d = .int .i32 (dAt s false 0 46 k) ∧ Hid (okTo s false 0 46 k))
  case atStart => exact ⟨rfl, 0, rfl, by omega, by omega, rfl, by rw [dAt_start], okTo_start _ _ _ _⟩
  case round =>
    obtain ⟨rfl, k, rfl, hk, hkn, rfl, rfl, hok⟩ := hrel
    have hd := dAt_cases s false 0 46 k (by simp)
    have her := Lib.hid (end_right H.out hk hkn)
    by_cases hlt : k < s.size
    · have hb := byteAt_lt s k
      obtain ⟨hb0, hb1⟩ := hb
      have hg := byteAt_get s k hlt
      have hn := Lib.hid (dAt_next s false 0 46 k hk)
      have hel := Lib.hid (end_left H.out hk hlt)
      have hon := Lib.hid (okTo_next hok.out)
      generalize dAt s false 0 46 k = d at *
      generalize byteAt s k = c at *
      have hk' : (k : Int) < (s.size : Int) := by omega
      by_cases h95 : c = 95
      · have t1 : (c == 95) = true := by simp [h95]
        have C95 := Lib.hid h95; clear h95
        rcases hd with rfl | rfl | rfl
        · go_wp2
          go_ret
          exact ⟨⟨_, rfl, hel.out C95.out (by decide)⟩, rfl⟩
        · go_wp2
          go_roundg (s.size - (k + 1))
          case measure => omega
          case rel => exact ⟨rfl, k + 1, rfl, by omega, by omega, by go_num, by rw [hn.out, C95.out]; rfl, hon.out (fun _ => by trivial) (fun h => absurd C95.out h)⟩
        · go_wp2
          go_ret
          exact ⟨⟨_, rfl, hel.out C95.out (by decide)⟩, rfl⟩
      · have t1 : (c == 95) = false := by simp [h95]
        have N95 := Lib.hid h95; clear h95
        cases hdec : decB c with
        | true =>
          have hdg : digB false c = true := by simp [digB, hdec]
          have DG := Lib.hid hdg; clear hdg
          rcases hd with rfl | rfl | rfl
          all_goals
            go_wp2_with (go_at_call 10; refine (isDec_any c true _ hdec).mono ?_; rintro e w' ⟨rfl, rfl⟩)
            go_roundg (s.size - (k + 1))
            case measure => omega
            case rel => exact ⟨rfl, k + 1, rfl, by omega, by omega, by go_num, by rw [hn.out, cls, if_neg N95.out, if_pos DG.out], hon.out (fun h => absurd h N95.out) (fun _ h => absurd (DG.out.symm.trans h) (by decide))⟩
        | false =>
          have hdg : digB false c = false := by simp [digB, hdec]
          have DG := Lib.hid hdg; clear hdg
          rcases hd with rfl | rfl | rfl
          · go_wp2_with (first | (go_at_call 10; refine (isDec_any c false _ hdec).mono ?_; rintro e w' ⟨rfl, rfl⟩))
            go_ret
            exact ⟨⟨_, rfl, (her.out (by trivial) (.inr ⟨N95.out, DG.out⟩)).2⟩, rfl⟩
          all_goals
            go_wp2_with (first | (go_at_call 10; refine (isDec_any c false _ hdec).mono ?_; rintro e w' ⟨rfl, rfl⟩))
            go_roundg (s.size - (k + 1))
            case measure => omega
            case rel => exact ⟨rfl, k + 1, rfl, by omega, by omega, by go_num, by rw [hn.out, cls, if_neg N95.out, if_neg (by rw [DG.out]; decide)], hon.out (fun h => absurd h N95.out) (fun _ _ => by decide)⟩
    · obtain rfl : k = s.size := by omega
      have heo := Lib.hid (end_ok H.out hok.out)
      generalize dAt s false 0 46 s.size = d at *
      rcases hd with rfl | rfl | rfl
      · have hp := her.out (by trivial) (.inl rfl)
        obtain ⟨hp0, HA⟩ := hp
        have HA := Lib.hid HA
        go_wp2
        go_ret
        exact ⟨⟨_, rfl, HA.out⟩, rfl⟩
      all_goals
        go_wp2
        go_ret
        exact ⟨⟨_, rfl, heo.out (by decide)⟩, rfl⟩

set_option maxHeartbeats 2000000 in
theorem sep_not0 (s : ByteArray) (w : World) (hs : s.size ≤ maxLen) (h2 : 1 < s.size) (c0 : Int) (h0 : (s[0].toNat : Int) = c0) (e0 : (c0 == 48) = false) (H : Hid (Head s false 0 46)) :
    Calls Try.prog 8 #[.string s] w fun e w' => (∃ k, e = .returned (.int .i64 k) ∧ Answer s false 0 k) ∧ w = w' := by
  unfold maxLen at hs
  have h2' : (2:Int) ≤ (s.size : Int) := by omega
  go_enter Try.func8, Try.ntmps8
  go_wp2
  go_loopg [4, 5] (s.size - 0) (fun g d i wr => wr = w ∧ ∃ k : Nat, g = s.size - k ∧ 0 ≤ k ∧ k ≤ s.size ∧ i = .int .i64 k ∧ d = .int .i32 (dAt s false 0 46 k) ∧ Hid (okTo s false 0 46 k))
  case atStart => exact ⟨rfl, 0, rfl, by omega, by omega, rfl, by rw [dAt_start], okTo_start _ _ _ _⟩
  case round =>
    obtain ⟨rfl, k, rfl, hk, hkn, rfl, rfl, hok⟩ := hrel
    have hd := dAt_cases s false 0 46 k (by simp)
    have her := Lib.hid (end_right H.out hk hkn)
    by_cases hlt : k < s.size
    · have hb := byteAt_lt s k
      obtain ⟨hb0, hb1⟩ := hb
      have hg := byteAt_get s k hlt
      have hn := Lib.hid (dAt_next s false 0 46 k hk)
      have hel := Lib.hid (end_left H.out hk hlt)
      have hon := Lib.hid (okTo_next hok.out)
      generalize dAt s false 0 46 k = d at *
      generalize byteAt s k = c at *
      have hk' : (k : Int) < (s.size : Int) := by omega
      by_cases h95 : c = 95
      · have t1 : (c == 95) = true := by simp [h95]
        have C95 := Lib.hid h95; clear h95
        rcases hd with rfl | rfl | rfl
        · go_wp2
          go_ret
          exact ⟨⟨_, rfl, hel.out C95.out (by decide)⟩, rfl⟩
        · go_wp2
          go_roundg (s.size - (k + 1))
          case measure => omega
          case rel => exact ⟨rfl, k + 1, rfl, by omega, by omega, by go_num, by rw [hn.out, C95.out]; rfl, hon.out (fun _ => by trivial) (fun h => absurd C95.out h)⟩
        · go_wp2
          go_ret
          exact ⟨⟨_, rfl, hel.out C95.out (by decide)⟩, rfl⟩
      · have t1 : (c == 95) = false := by simp [h95]
        have N95 := Lib.hid h95; clear h95
        cases hdec : decB c with
        | true =>
          have hdg : digB false c = true := by simp [digB, hdec]
          have DG := Lib.hid hdg; clear hdg
          rcases hd with rfl | rfl | rfl
          all_goals
            go_wp2_with (go_at_call 10; refine (isDec_any c true _ hdec).mono ?_; rintro e w' ⟨rfl, rfl⟩)
            go_roundg (s.size - (k + 1))
            case measure => omega
            case rel => exact ⟨rfl, k + 1, rfl, by omega, by omega, by go_num, by rw [hn.out, cls, if_neg N95.out, if_pos DG.out], hon.out (fun h => absurd h N95.out) (fun _ h => absurd (DG.out.symm.trans h) (by decide))⟩
        | false =>
          have hdg : digB false c = false := by simp [digB, hdec]
          have DG := Lib.hid hdg; clear hdg
          rcases hd with rfl | rfl | rfl
          · go_wp2_with (first | (go_at_call 10; refine (isDec_any c false _ hdec).mono ?_; rintro e w' ⟨rfl, rfl⟩))
            go_ret
            exact ⟨⟨_, rfl, (her.out (by trivial) (.inr ⟨N95.out, DG.out⟩)).2⟩, rfl⟩
          all_goals
            go_wp2_with (first | (go_at_call 10; refine (isDec_any c false _ hdec).mono ?_; rintro e w' ⟨rfl, rfl⟩))
            go_roundg (s.size - (k + 1))
            case measure => omega
            case rel => exact ⟨rfl, k + 1, rfl, by omega, by omega, by go_num, by rw [hn.out, cls, if_neg N95.out, if_neg (by rw [DG.out]; decide)], hon.out (fun h => absurd h N95.out) (fun _ _ => by decide)⟩
    · obtain rfl : k = s.size := by omega
      have heo := Lib.hid (end_ok H.out hok.out)
      generalize dAt s false 0 46 s.size = d at *
      rcases hd with rfl | rfl | rfl
      · have hp := her.out (by trivial) (.inl rfl)
        obtain ⟨hp0, HA⟩ := hp
        have HA := Lib.hid HA
        go_wp2
        go_ret
        exact ⟨⟨_, rfl, HA.out⟩, rfl⟩
      all_goals
        go_wp2
        go_ret
        exact ⟨⟨_, rfl, heo.out (by decide)⟩, rfl⟩

set_option maxHeartbeats 2000000 in
theorem sep_short (s : ByteArray) (w : World) (hs : s.size ≤ maxLen) (h2 : ¬ (2:Int) ≤ (s.size : Int)) (H : Hid (Head s false 0 46)) :
    Calls Try.prog 8 #[.string s] w fun e w' => (∃ k, e = .returned (.int .i64 k) ∧ Answer s false 0 k) ∧ w = w' := by
  unfold maxLen at hs
  go_enter Try.func8, Try.ntmps8
  go_wp2
  go_loopg [4, 5] (s.size - 0) (fun g d i wr => wr = w ∧ ∃ k : Nat, g = s.size - k ∧ 0 ≤ k ∧ k ≤ s.size ∧ i = .int .i64 k ∧ d = .int .i32 (dAt s false 0 46 k) ∧ Hid (okTo s false 0 46 k))
  case atStart => exact ⟨rfl, 0, rfl, by omega, by omega, rfl, by rw [dAt_start], okTo_start _ _ _ _⟩
  case round =>
    obtain ⟨rfl, k, rfl, hk, hkn, rfl, rfl, hok⟩ := hrel
    have hd := dAt_cases s false 0 46 k (by simp)
    have her := Lib.hid (end_right H.out hk hkn)
    by_cases hlt : k < s.size
    · have hb := byteAt_lt s k
      obtain ⟨hb0, hb1⟩ := hb
      have hg := byteAt_get s k hlt
      have hn := Lib.hid (dAt_next s false 0 46 k hk)
      have hel := Lib.hid (end_left H.out hk hlt)
      have hon := Lib.hid (okTo_next hok.out)
      generalize dAt s false 0 46 k = d at *
      generalize byteAt s k = c at *
      have hk' : (k : Int) < (s.size : Int) := by omega
      by_cases h95 : c = 95
      · have t1 : (c == 95) = true := by simp [h95]
        have C95 := Lib.hid h95; clear h95
        rcases hd with rfl | rfl | rfl
        · go_wp2
          go_ret
          exact ⟨⟨_, rfl, hel.out C95.out (by decide)⟩, rfl⟩
        · go_wp2
          go_roundg (s.size - (k + 1))
          case measure => omega
          case rel => exact ⟨rfl, k + 1, rfl, by omega, by omega, by go_num, by rw [hn.out, C95.out]; rfl, hon.out (fun _ => by trivial) (fun h => absurd C95.out h)⟩
        · go_wp2
          go_ret
          exact ⟨⟨_, rfl, hel.out C95.out (by decide)⟩, rfl⟩
      · have t1 : (c == 95) = false := by simp [h95]
        have N95 := Lib.hid h95; clear h95
        cases hdec : decB c with
        | true =>
          have hdg : digB false c = true := by simp [digB, hdec]
          have DG := Lib.hid hdg; clear hdg
          rcases hd with rfl | rfl | rfl
          all_goals
            go_wp2_with (go_at_call 10; refine (isDec_any c true _ hdec).mono ?_; rintro e w' ⟨rfl, rfl⟩)
            go_roundg (s.size - (k + 1))
            case measure => omega
            case rel => exact ⟨rfl, k + 1, rfl, by omega, by omega, by go_num, by rw [hn.out, cls, if_neg N95.out, if_pos DG.out], hon.out (fun h => absurd h N95.out) (fun _ h => absurd (DG.out.symm.trans h) (by decide))⟩
        | false =>
          have hdg : digB false c = false := by simp [digB, hdec]
          have DG := Lib.hid hdg; clear hdg
          rcases hd with rfl | rfl | rfl
          · go_wp2_with (first | (go_at_call 10; refine (isDec_any c false _ hdec).mono ?_; rintro e w' ⟨rfl, rfl⟩))
            go_ret
            exact ⟨⟨_, rfl, (her.out (by trivial) (.inr ⟨N95.out, DG.out⟩)).2⟩, rfl⟩
          all_goals
            go_wp2_with (first | (go_at_call 10; refine (isDec_any c false _ hdec).mono ?_; rintro e w' ⟨rfl, rfl⟩))
            go_roundg (s.size - (k + 1))
            case measure => omega
            case rel => exact ⟨rfl, k + 1, rfl, by omega, by omega, by go_num, by rw [hn.out, cls, if_neg N95.out, if_neg (by rw [DG.out]; decide)], hon.out (fun h => absurd h N95.out) (fun _ _ => by decide)⟩
    · obtain rfl : k = s.size := by omega
      have heo := Lib.hid (end_ok H.out hok.out)
      generalize dAt s false 0 46 s.size = d at *
      rcases hd with rfl | rfl | rfl
      · have hp := her.out (by trivial) (.inl rfl)
        obtain ⟨hp0, HA⟩ := hp
        have HA := Lib.hid HA
        go_wp2
        go_ret
        exact ⟨⟨_, rfl, HA.out⟩, rfl⟩
      all_goals
        go_wp2
        go_ret
        exact ⟨⟨_, rfl, heo.out (by decide)⟩, rfl⟩

end Go.Proofs.Ytnehkpoggkfikaa
