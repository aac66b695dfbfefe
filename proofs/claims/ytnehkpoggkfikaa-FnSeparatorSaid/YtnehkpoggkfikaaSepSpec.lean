/-
  The walk through the statement's own reading (Parted). Condition: the text is no longer than the model's longest.
-/
import Derived.Test.YtnehkpoggkfikaaSepWalk
namespace Go.Proofs.Ytnehkpoggkfikaa
open Go.RowKit
set_option linter.unusedVariables false

theorem dig_any (c : Int) (h b : Bool) (w : World) (h0 : 0 ≤ c) (h1 : c < 256) (hr : digB h c = b) :
    Calls Try.prog 7 #[.int .u8 c, .bool h] w fun e w' => e = .returned (.bool b) ∧ w = w' := by
  have hs := low_same c h0 h1
  unfold digB decB hexB at hr
  rw [hs] at hr
  clear hs
  have hl : bits BinOp.or .u8 c 32 = lowU c := rfl
  generalize lowU c = l at *
  have H := Lib.hid hr; clear hr
  cases h <;> by_cases h1 : 48 ≤ c <;> by_cases h2 : c ≤ 57 <;> by_cases h3 : 97 ≤ l
  all_goals
    go_enter Try.func7, Try.ntmps7
    go_wp2
    go_ret
    exact ⟨ret_bool (by rw [← H.out]; simp [h1, h2, h3]; try omega), rfl⟩

theorem parted_next {s : ByteArray} {hex : Bool} {st k : Nat} (h : partedTo s hex st k) (hk : byteAt s k = 95 → leftOk s hex st k ∧ rightOk s hex k) : partedTo s hex st (k + 1) := by
  intro j hj hc
  by_cases e : j = k
  · subst e; exact hk hc
  · exact h j (by omega) hc
theorem parted_not {s : ByteArray} {hex : Bool} {st k : Nat} (hlt : k < s.size) (hc : byteAt s k = 95) (hn : ¬ leftOk s hex st k ∨ ¬ rightOk s hex k) : (false = true ↔ partedTo s hex st s.size) := by
  refine ⟨fun h => Bool.noConfusion h, fun h => ?_⟩
  obtain ⟨h1, h2⟩ := h k hlt hc
  rcases hn with hn | hn
  · exact absurd h1 hn
  · exact absurd h2 hn

def ParPost (s : ByteArray) (hex : Bool) (st : Nat) (w : World) (e : Ending) (w' : World) : Prop := (∃ b, e = .returned (.bool b) ∧ (b = true ↔ partedTo s hex st s.size)) ∧ w = w'
theorem par_false {s : ByteArray} {hex : Bool} {st : Nat} {w : World} (h : false = true ↔ partedTo s hex st s.size) : ParPost s hex st w (.returned (.bool false)) w := ⟨⟨_, rfl, h⟩, rfl⟩
theorem par_true {s : ByteArray} {hex : Bool} {st : Nat} {w : World} (h : partedTo s hex st s.size) : ParPost s hex st w (.returned (.bool true)) w := ⟨⟨_, rfl, fun _ => h, fun _ => rfl⟩, rfl⟩

set_option maxHeartbeats 4000000 in
theorem parted_hex (s : ByteArray) (w : World) (hs : s.size ≤ maxLen) (h2 : 1 < s.size) (c0 c1 : Int) (h0 : (s[0].toNat : Int) = c0) (h1 : (s[1].toNat : Int) = c1) (e0 : (c0 == 48) = true) (b0 : 0 ≤ c1) (b1 : c1 < 256) (x : Int) (hx : bits BinOp.or IntKind.u8 c1 32 = x) (hc : (x == 120) = true) :
    Calls Try.prog 5 #[.string s] w (ParPost s true 2 w) := by
  unfold maxLen at hs
  have h2' : (1:Int) < (s.size : Int) := by omega
  go_enter Try.func5, Try.ntmps5
  go_wp2
  go_loopg [5] s.size (fun g i wr => wr = w ∧ ∃ k : Nat, g = s.size - k ∧ k ≤ s.size ∧ i = .int .i64 k ∧ Hid (partedTo s true 2 k))
  case atStart => exact ⟨rfl, 0, rfl, by omega, rfl, fun j hj => by omega⟩
  case round =>
    obtain ⟨rfl, k, rfl, hkn, rfl, hok⟩ := hrel
    by_cases hlt : k < s.size
    · have hk' : (k : Int) < (s.size : Int) := by omega
      obtain ⟨hb0, hb1⟩ := byteAt_lt s k
      have hg := byteAt_get s k hlt
      have hon := Lib.hid (parted_next hok.out)
      have hno := Lib.hid (parted_not (hex := true) (st := 2) hlt)
      generalize byteAt s k = c at *
      by_cases h95 : c = 95
      · have t1 : (c != 95) = false := by simp [h95]
        have C95 := Lib.hid h95; clear h95
        by_cases hk0 : k ≤ 0
        · have k1 : ¬ (0:Int) < (k : Int) := by omega
          have HF := Lib.hid (hno.out C95.out (.inl fun h => by have := h.1; omega))
          go_wp2
          all_goals
            go_ret
            exact par_false HF.out
        · have k1 : (0:Int) < (k : Int) := by omega
          by_cases hk1 : k = 2
          · have k2 : ((k:Int) == 2) = true := by simp; omega
            have HLO := Lib.hid (show leftOk s true 2 k from ⟨by omega, .inl hk1⟩)
            have HK := Lib.hid hk1; clear hk1
            by_cases hr : k + 1 = s.size
            · have r1 : ((k:Int) + 1 == (s.size : Int)) = true := by simp; omega
              have HF := Lib.hid (hno.out C95.out (.inr fun h => by have := h.1; omega))
              have HR := Lib.hid hr; clear hr
              go_wp2_with fail
              go_ret
              exact par_false HF.out
            · have r1 : ((k:Int) + 1 == (s.size : Int)) = false := by simp; omega
              have hr' : (k : Int) + 1 < (s.size : Int) := by omega
              have hr2 : k + 1 < s.size := by omega
              have hgr := byteAt_get s (k + 1) hr2
              obtain ⟨hr0, hr1⟩ := byteAt_lt s (k + 1)
              have hro := Lib.hid (show digB true (byteAt s (k + 1)) = true → rightOk s true k from fun h => ⟨hr2, h⟩)
              have hrn := Lib.hid (show digB true (byteAt s (k + 1)) = false → ¬ rightOk s true k from fun h g => by have := g.2; rw [h] at this; cases this)
              generalize byteAt s (k + 1) = r at *
              cases hdr : digB true r
              · have HF := Lib.hid (hno.out C95.out (.inr (hrn.out hdr)))
                go_wp2_with (first | (go_at_call 7; with_reducible refine (dig_any r true false _ hr0 hr1 hdr).mono ?_; rintro e w' ⟨rfl, rfl⟩))
                go_ret
                exact par_false HF.out
              · have HT := Lib.hid (hon.out fun _ => ⟨HLO.out, hro.out hdr⟩)
                go_wp2_with (first | (go_at_call 7; with_reducible refine (dig_any r true true _ hr0 hr1 hdr).mono ?_; rintro e w' ⟨rfl, rfl⟩))
                go_roundg (s.size - (k + 1))
                case measure => omega
                case rel => exact ⟨rfl, k + 1, rfl, by omega, by go_num, HT.out⟩
          · have k2 : ((k:Int) == 2) = false := by simp; omega
            by_cases hk3 : k < 2
            · have k3 : ¬ (2:Int) < (k : Int) := by omega
              have HF := Lib.hid (hno.out C95.out (.inl fun h => by rcases h.2 with h | ⟨h, _⟩ <;> omega))
              go_wp2
              all_goals
                go_ret
                exact par_false HF.out
            · have k3 : (2:Int) < (k : Int) := by omega
              have hgl := byteAt_get s (k - 1) (by omega)
              obtain ⟨hl0, hl1⟩ := byteAt_lt s (k - 1)
              have hlo := Lib.hid (show digB true (byteAt s (k - 1)) = true → leftOk s true 2 k from fun h => ⟨by omega, .inr ⟨by omega, h⟩⟩)
              have hln := Lib.hid (show digB true (byteAt s (k - 1)) = false → ¬ leftOk s true 2 k from fun h g => by
                rcases g.2 with g | ⟨_, g⟩
                · omega
                · rw [h] at g; cases g)
              generalize byteAt s (k - 1) = l at *
              cases hdl : digB true l
              · have HF := Lib.hid (hno.out C95.out (.inl (hln.out hdl)))
                go_wp2_with (go_at_call 7; with_reducible refine (dig_any l true false _ hl0 hl1 hdl).mono ?_; rintro e w' ⟨rfl, rfl⟩)
                go_ret
                exact par_false HF.out
              · have HLO := Lib.hid (hlo.out hdl)
                by_cases hr : k + 1 = s.size
                · have r1 : ((k:Int) + 1 == (s.size : Int)) = true := by simp; omega
                  have HF := Lib.hid (hno.out C95.out (.inr fun h => by have := h.1; omega))
                  have HR := Lib.hid hr; clear hr
                  go_wp2_with (go_at_call 7; with_reducible refine (dig_any l true true _ hl0 hl1 hdl).mono ?_; rintro e w' ⟨rfl, rfl⟩)
                  go_ret
                  exact par_false HF.out
                · have r1 : ((k:Int) + 1 == (s.size : Int)) = false := by simp; omega
                  have hr' : (k : Int) + 1 < (s.size : Int) := by omega
                  have hr2 : k + 1 < s.size := by omega
                  have hgr := byteAt_get s (k + 1) hr2
                  obtain ⟨hr0, hr1⟩ := byteAt_lt s (k + 1)
                  have hro := Lib.hid (show digB true (byteAt s (k + 1)) = true → rightOk s true k from fun h => ⟨hr2, h⟩)
                  have hrn := Lib.hid (show digB true (byteAt s (k + 1)) = false → ¬ rightOk s true k from fun h g => by have := g.2; rw [h] at this; cases this)
                  generalize byteAt s (k + 1) = r at *
                  cases hdr : digB true r
                  · have HF := Lib.hid (hno.out C95.out (.inr (hrn.out hdr)))
                    go_wp2_with (first | (go_at_call 7; with_reducible refine (dig_any l true true _ hl0 hl1 hdl).mono ?_; rintro e w' ⟨rfl, rfl⟩) | (go_at_call 7; with_reducible refine (dig_any r true false _ hr0 hr1 hdr).mono ?_; rintro e w' ⟨rfl, rfl⟩))
                    go_ret
                    exact par_false HF.out
                  · have HT := Lib.hid (hon.out fun _ => ⟨HLO.out, hro.out hdr⟩)
                    go_wp2_with (first | (go_at_call 7; with_reducible refine (dig_any l true true _ hl0 hl1 hdl).mono ?_; rintro e w' ⟨rfl, rfl⟩) | (go_at_call 7; with_reducible refine (dig_any r true true _ hr0 hr1 hdr).mono ?_; rintro e w' ⟨rfl, rfl⟩))
                    go_roundg (s.size - (k + 1))
                    case measure => omega
                    case rel => exact ⟨rfl, k + 1, rfl, by omega, by go_num, HT.out⟩
      · have t1 : (c != 95) = true := by simp [h95]
        have N95 := Lib.hid h95; clear h95
        go_wp2
        go_roundg (s.size - (k + 1))
        case measure => omega
        case rel => exact ⟨rfl, k + 1, rfl, by omega, by go_num, hon.out (fun h => absurd h N95.out)⟩
    · obtain rfl : k = s.size := by omega
      go_wp2
      go_ret
      exact par_true hok.out

set_option maxHeartbeats 4000000 in
theorem parted_oct (s : ByteArray) (w : World) (hs : s.size ≤ maxLen) (h2 : 1 < s.size) (c0 c1 : Int) (h0 : (s[0].toNat : Int) = c0) (h1 : (s[1].toNat : Int) = c1) (e0 : (c0 == 48) = true) (b0 : 0 ≤ c1) (b1 : c1 < 256) (x : Int) (hx : bits BinOp.or IntKind.u8 c1 32 = x) (hc : (x == 120) = false) (ho : (x == 111) = true) :
    Calls Try.prog 5 #[.string s] w (ParPost s false 2 w) := by
  unfold maxLen at hs
  have h2' : (1:Int) < (s.size : Int) := by omega
  go_enter Try.func5, Try.ntmps5
  go_wp2
  go_loopg [5] s.size (fun g i wr => wr = w ∧ ∃ k : Nat, g = s.size - k ∧ k ≤ s.size ∧ i = .int .i64 k ∧ Hid (partedTo s false 2 k))
  case atStart => exact ⟨rfl, 0, rfl, by omega, rfl, fun j hj => by omega⟩
  case round =>
    obtain ⟨rfl, k, rfl, hkn, rfl, hok⟩ := hrel
    by_cases hlt : k < s.size
    · have hk' : (k : Int) < (s.size : Int) := by omega
      obtain ⟨hb0, hb1⟩ := byteAt_lt s k
      have hg := byteAt_get s k hlt
      have hon := Lib.hid (parted_next hok.out)
      have hno := Lib.hid (parted_not (hex := false) (st := 2) hlt)
      generalize byteAt s k = c at *
      by_cases h95 : c = 95
      · have t1 : (c != 95) = false := by simp [h95]
        have C95 := Lib.hid h95; clear h95
        by_cases hk0 : k ≤ 0
        · have k1 : ¬ (0:Int) < (k : Int) := by omega
          have HF := Lib.hid (hno.out C95.out (.inl fun h => by have := h.1; omega))
          go_wp2
          all_goals
            go_ret
            exact par_false HF.out
        · have k1 : (0:Int) < (k : Int) := by omega
          by_cases hk1 : k = 2
          · have k2 : ((k:Int) == 2) = true := by simp; omega
            have HLO := Lib.hid (show leftOk s false 2 k from ⟨by omega, .inl hk1⟩)
            have HK := Lib.hid hk1; clear hk1
            by_cases hr : k + 1 = s.size
            · have r1 : ((k:Int) + 1 == (s.size : Int)) = true := by simp; omega
              have HF := Lib.hid (hno.out C95.out (.inr fun h => by have := h.1; omega))
              have HR := Lib.hid hr; clear hr
              go_wp2_with fail
              go_ret
              exact par_false HF.out
            · have r1 : ((k:Int) + 1 == (s.size : Int)) = false := by simp; omega
              have hr' : (k : Int) + 1 < (s.size : Int) := by omega
              have hr2 : k + 1 < s.size := by omega
              have hgr := byteAt_get s (k + 1) hr2
              obtain ⟨hr0, hr1⟩ := byteAt_lt s (k + 1)
              have hro := Lib.hid (show digB false (byteAt s (k + 1)) = true → rightOk s false k from fun h => ⟨hr2, h⟩)
              have hrn := Lib.hid (show digB false (byteAt s (k + 1)) = false → ¬ rightOk s false k from fun h g => by have := g.2; rw [h] at this; cases this)
              generalize byteAt s (k + 1) = r at *
              cases hdr : digB false r
              · have HF := Lib.hid (hno.out C95.out (.inr (hrn.out hdr)))
                go_wp2_with (first | (go_at_call 7; with_reducible refine (dig_any r false false _ hr0 hr1 hdr).mono ?_; rintro e w' ⟨rfl, rfl⟩))
                go_ret
                exact par_false HF.out
              · have HT := Lib.hid (hon.out fun _ => ⟨HLO.out, hro.out hdr⟩)
                go_wp2_with (first | (go_at_call 7; with_reducible refine (dig_any r false true _ hr0 hr1 hdr).mono ?_; rintro e w' ⟨rfl, rfl⟩))
                go_roundg (s.size - (k + 1))
                case measure => omega
                case rel => exact ⟨rfl, k + 1, rfl, by omega, by go_num, HT.out⟩
          · have k2 : ((k:Int) == 2) = false := by simp; omega
            by_cases hk3 : k < 2
            · have k3 : ¬ (2:Int) < (k : Int) := by omega
              have HF := Lib.hid (hno.out C95.out (.inl fun h => by rcases h.2 with h | ⟨h, _⟩ <;> omega))
              go_wp2
              all_goals
                go_ret
                exact par_false HF.out
            · have k3 : (2:Int) < (k : Int) := by omega
              have hgl := byteAt_get s (k - 1) (by omega)
              obtain ⟨hl0, hl1⟩ := byteAt_lt s (k - 1)
              have hlo := Lib.hid (show digB false (byteAt s (k - 1)) = true → leftOk s false 2 k from fun h => ⟨by omega, .inr ⟨by omega, h⟩⟩)
              have hln := Lib.hid (show digB false (byteAt s (k - 1)) = false → ¬ leftOk s false 2 k from fun h g => by
                rcases g.2 with g | ⟨_, g⟩
                · omega
                · rw [h] at g; cases g)
              generalize byteAt s (k - 1) = l at *
              cases hdl : digB false l
              · have HF := Lib.hid (hno.out C95.out (.inl (hln.out hdl)))
                go_wp2_with (go_at_call 7; with_reducible refine (dig_any l false false _ hl0 hl1 hdl).mono ?_; rintro e w' ⟨rfl, rfl⟩)
                go_ret
                exact par_false HF.out
              · have HLO := Lib.hid (hlo.out hdl)
                by_cases hr : k + 1 = s.size
                · have r1 : ((k:Int) + 1 == (s.size : Int)) = true := by simp; omega
                  have HF := Lib.hid (hno.out C95.out (.inr fun h => by have := h.1; omega))
                  have HR := Lib.hid hr; clear hr
                  go_wp2_with (go_at_call 7; with_reducible refine (dig_any l false true _ hl0 hl1 hdl).mono ?_; rintro e w' ⟨rfl, rfl⟩)
                  go_ret
                  exact par_false HF.out
                · have r1 : ((k:Int) + 1 == (s.size : Int)) = false := by simp; omega
                  have hr' : (k : Int) + 1 < (s.size : Int) := by omega
                  have hr2 : k + 1 < s.size := by omega
                  have hgr := byteAt_get s (k + 1) hr2
                  obtain ⟨hr0, hr1⟩ := byteAt_lt s (k + 1)
                  have hro := Lib.hid (show digB false (byteAt s (k + 1)) = true → rightOk s false k from fun h => ⟨hr2, h⟩)
                  have hrn := Lib.hid (show digB false (byteAt s (k + 1)) = false → ¬ rightOk s false k from fun h g => by have := g.2; rw [h] at this; cases this)
                  generalize byteAt s (k + 1) = r at *
                  cases hdr : digB false r
                  · have HF := Lib.hid (hno.out C95.out (.inr (hrn.out hdr)))
                    go_wp2_with (first | (go_at_call 7; with_reducible refine (dig_any l false true _ hl0 hl1 hdl).mono ?_; rintro e w' ⟨rfl, rfl⟩) | (go_at_call 7; with_reducible refine (dig_any r false false _ hr0 hr1 hdr).mono ?_; rintro e w' ⟨rfl, rfl⟩))
                    go_ret
                    exact par_false HF.out
                  · have HT := Lib.hid (hon.out fun _ => ⟨HLO.out, hro.out hdr⟩)
                    go_wp2_with (first | (go_at_call 7; with_reducible refine (dig_any l false true _ hl0 hl1 hdl).mono ?_; rintro e w' ⟨rfl, rfl⟩) | (go_at_call 7; with_reducible refine (dig_any r false true _ hr0 hr1 hdr).mono ?_; rintro e w' ⟨rfl, rfl⟩))
                    go_roundg (s.size - (k + 1))
                    case measure => omega
                    case rel => exact ⟨rfl, k + 1, rfl, by omega, by go_num, HT.out⟩
      · have t1 : (c != 95) = true := by simp [h95]
        have N95 := Lib.hid h95; clear h95
        go_wp2
        go_roundg (s.size - (k + 1))
        case measure => omega
        case rel => exact ⟨rfl, k + 1, rfl, by omega, by go_num, hon.out (fun h => absurd h N95.out)⟩
    · obtain rfl : k = s.size := by omega
      go_wp2
      go_ret
      exact par_true hok.out

set_option maxHeartbeats 4000000 in
theorem parted_bin (s : ByteArray) (w : World) (hs : s.size ≤ maxLen) (h2 : 1 < s.size) (c0 c1 : Int) (h0 : (s[0].toNat : Int) = c0) (h1 : (s[1].toNat : Int) = c1) (e0 : (c0 == 48) = true) (b0 : 0 ≤ c1) (b1 : c1 < 256) (x : Int) (hx : bits BinOp.or IntKind.u8 c1 32 = x) (hc : (x == 120) = false) (ho : (x == 111) = false) (hb : (x == 98) = true) :
    Calls Try.prog 5 #[.string s] w (ParPost s false 2 w) := by
  unfold maxLen at hs
  have h2' : (1:Int) < (s.size : Int) := by omega
  go_enter Try.func5, Try.ntmps5
  go_wp2
  go_loopg [5] s.size (fun g i wr => wr = w ∧ ∃ k : Nat, g = s.size - k ∧ k ≤ s.size ∧ i = .int .i64 k ∧ Hid (partedTo s false 2 k))
  case atStart => exact ⟨rfl, 0, rfl, by omega, rfl, fun j hj => by omega⟩
  case round =>
    obtain ⟨rfl, k, rfl, hkn, rfl, hok⟩ := hrel
    by_cases hlt : k < s.size
    · have hk' : (k : Int) < (s.size : Int) := by omega
      obtain ⟨hb0, hb1⟩ := byteAt_lt s k
      have hg := byteAt_get s k hlt
      have hon := Lib.hid (parted_next hok.out)
      have hno := Lib.hid (parted_not (hex := false) (st := 2) hlt)
      generalize byteAt s k = c at *
      by_cases h95 : c = 95
      · have t1 : (c != 95) = false := by simp [h95]
        have C95 := Lib.hid h95; clear h95
        by_cases hk0 : k ≤ 0
        · have k1 : ¬ (0:Int) < (k : Int) := by omega
          have HF := Lib.hid (hno.out C95.out (.inl fun h => by have := h.1; omega))
          go_wp2
          all_goals
            go_ret
            exact par_false HF.out
        · have k1 : (0:Int) < (k : Int) := by omega
          by_cases hk1 : k = 2
          · have k2 : ((k:Int) == 2) = true := by simp; omega
            have HLO := Lib.hid (show leftOk s false 2 k from ⟨by omega, .inl hk1⟩)
            have HK := Lib.hid hk1; clear hk1
            by_cases hr : k + 1 = s.size
            · have r1 : ((k:Int) + 1 == (s.size : Int)) = true := by simp; omega
              have HF := Lib.hid (hno.out C95.out (.inr fun h => by have := h.1; omega))
              have HR := Lib.hid hr; clear hr
              go_wp2_with fail
              go_ret
              exact par_false HF.out
            · have r1 : ((k:Int) + 1 == (s.size : Int)) = false := by simp; omega
              have hr' : (k : Int) + 1 < (s.size : Int) := by omega
              have hr2 : k + 1 < s.size := by omega
              have hgr := byteAt_get s (k + 1) hr2
              obtain ⟨hr0, hr1⟩ := byteAt_lt s (k + 1)
              have hro := Lib.hid (show digB false (byteAt s (k + 1)) = true → rightOk s false k from fun h => ⟨hr2, h⟩)
              have hrn := Lib.hid (show digB false (byteAt s (k + 1)) = false → ¬ rightOk s false k from fun h g => by have := g.2; rw [h] at this; cases this)
              generalize byteAt s (k + 1) = r at *
              cases hdr : digB false r
              · have HF := Lib.hid (hno.out C95.out (.inr (hrn.out hdr)))
                go_wp2_with (first | (go_at_call 7; with_reducible refine (dig_any r false false _ hr0 hr1 hdr).mono ?_; rintro e w' ⟨rfl, rfl⟩))
                go_ret
                exact par_false HF.out
              · have HT := Lib.hid (hon.out fun _ => ⟨HLO.out, hro.out hdr⟩)
                go_wp2_with (first | (go_at_call 7; with_reducible refine (dig_any r false true _ hr0 hr1 hdr).mono ?_; rintro e w' ⟨rfl, rfl⟩))
                go_roundg (s.size - (k + 1))
                case measure => omega
                case rel => exact ⟨rfl, k + 1, rfl, by omega, by go_num, HT.out⟩
          · have k2 : ((k:Int) == 2) = false := by simp; omega
            by_cases hk3 : k < 2
            · have k3 : ¬ (2:Int) < (k : Int) := by omega
              have HF := Lib.hid (hno.out C95.out (.inl fun h => by rcases h.2 with h | ⟨h, _⟩ <;> omega))
              go_wp2
              all_goals
                go_ret
                exact par_false HF.out
            · have k3 : (2:Int) < (k : Int) := by omega
              have hgl := byteAt_get s (k - 1) (by omega)
              obtain ⟨hl0, hl1⟩ := byteAt_lt s (k - 1)
              have hlo := Lib.hid (show digB false (byteAt s (k - 1)) = true → leftOk s false 2 k from fun h => ⟨by omega, .inr ⟨by omega, h⟩⟩)
              have hln := Lib.hid (show digB false (byteAt s (k - 1)) = false → ¬ leftOk s false 2 k from fun h g => by
                rcases g.2 with g | ⟨_, g⟩
                · omega
                · rw [h] at g; cases g)
              generalize byteAt s (k - 1) = l at *
              cases hdl : digB false l
              · have HF := Lib.hid (hno.out C95.out (.inl (hln.out hdl)))
                go_wp2_with (go_at_call 7; with_reducible refine (dig_any l false false _ hl0 hl1 hdl).mono ?_; rintro e w' ⟨rfl, rfl⟩)
                go_ret
                exact par_false HF.out
              · have HLO := Lib.hid (hlo.out hdl)
                by_cases hr : k + 1 = s.size
                · have r1 : ((k:Int) + 1 == (s.size : Int)) = true := by simp; omega
                  have HF := Lib.hid (hno.out C95.out (.inr fun h => by have := h.1; omega))
                  have HR := Lib.hid hr; clear hr
                  go_wp2_with (go_at_call 7; with_reducible refine (dig_any l false true _ hl0 hl1 hdl).mono ?_; rintro e w' ⟨rfl, rfl⟩)
                  go_ret
                  exact par_false HF.out
                · have r1 : ((k:Int) + 1 == (s.size : Int)) = false := by simp; omega
                  have hr' : (k : Int) + 1 < (s.size : Int) := by omega
                  have hr2 : k + 1 < s.size := by omega
                  have hgr := byteAt_get s (k + 1) hr2
                  obtain ⟨hr0, hr1⟩ := byteAt_lt s (k + 1)
                  have hro := Lib.hid (show digB false (byteAt s (k + 1)) = true → rightOk s false k from fun h => ⟨hr2, h⟩)
                  have hrn := Lib.hid (show digB false (byteAt s (k + 1)) = false → ¬ rightOk s false k from fun h g => by have := g.2; rw [h] at this; cases this)
                  generalize byteAt s (k + 1) = r at *
                  cases hdr : digB false r
                  · have HF := Lib.hid (hno.out C95.out (.inr (hrn.out hdr)))
                    go_wp2_with (first | (go_at_call 7; with_reducible refine (dig_any l false true _ hl0 hl1 hdl).mono ?_; rintro e w' ⟨rfl, rfl⟩) | (go_at_call 7; with_reducible refine (dig_any r false false _ hr0 hr1 hdr).mono ?_; rintro e w' ⟨rfl, rfl⟩))
                    go_ret
                    exact par_false HF.out
                  · have HT := Lib.hid (hon.out fun _ => ⟨HLO.out, hro.out hdr⟩)
                    go_wp2_with (first | (go_at_call 7; with_reducible refine (dig_any l false true _ hl0 hl1 hdl).mono ?_; rintro e w' ⟨rfl, rfl⟩) | (go_at_call 7; with_reducible refine (dig_any r false true _ hr0 hr1 hdr).mono ?_; rintro e w' ⟨rfl, rfl⟩))
                    go_roundg (s.size - (k + 1))
                    case measure => omega
                    case rel => exact ⟨rfl, k + 1, rfl, by omega, by go_num, HT.out⟩
      · have t1 : (c != 95) = true := by simp [h95]
        have N95 := Lib.hid h95; clear h95
        go_wp2
        go_roundg (s.size - (k + 1))
        case measure => omega
        case rel => exact ⟨rfl, k + 1, rfl, by omega, by go_num, hon.out (fun h => absurd h N95.out)⟩
    · obtain rfl : k = s.size := by omega
      go_wp2
      go_ret
      exact par_true hok.out

set_option maxHeartbeats 4000000 in
theorem parted_none (s : ByteArray) (w : World) (hs : s.size ≤ maxLen) (h2 : 1 < s.size) (c0 c1 : Int) (h0 : (s[0].toNat : Int) = c0) (h1 : (s[1].toNat : Int) = c1) (e0 : (c0 == 48) = true) (b0 : 0 ≤ c1) (b1 : c1 < 256) (x : Int) (hx : bits BinOp.or IntKind.u8 c1 32 = x) (hc : (x == 120) = false) (ho : (x == 111) = false) (hb : (x == 98) = false) :
    Calls Try.prog 5 #[.string s] w (ParPost s false 0 w) := by
  unfold maxLen at hs
  have h2' : (1:Int) < (s.size : Int) := by omega
  go_enter Try.func5, Try.ntmps5
  go_wp2
  go_loopg [5] s.size (fun g i wr => wr = w ∧ ∃ k : Nat, g = s.size - k ∧ k ≤ s.size ∧ i = .int .i64 k ∧ Hid (partedTo s false 0 k))
  case atStart => exact ⟨rfl, 0, rfl, by omega, rfl, fun j hj => by omega⟩
  case round =>
    obtain ⟨rfl, k, rfl, hkn, rfl, hok⟩ := hrel
    by_cases hlt : k < s.size
    · have hk' : (k : Int) < (s.size : Int) := by omega
      obtain ⟨hb0, hb1⟩ := byteAt_lt s k
      have hg := byteAt_get s k hlt
      have hon := Lib.hid (parted_next hok.out)
      have hno := Lib.hid (parted_not (hex := false) (st := 0) hlt)
      generalize byteAt s k = c at *
      by_cases h95 : c = 95
      · have t1 : (c != 95) = false := by simp [h95]
        have C95 := Lib.hid h95; clear h95
        by_cases hk0 : k ≤ 0
        · have k1 : ¬ (0:Int) < (k : Int) := by omega
          have HF := Lib.hid (hno.out C95.out (.inl fun h => by have := h.1; omega))
          go_wp2
          all_goals
            go_ret
            exact par_false HF.out
        · have k1 : (0:Int) < (k : Int) := by omega
          have k2 : ((k:Int) == 0) = false := by simp; omega
          have hgl := byteAt_get s (k - 1) (by omega)
          obtain ⟨hl0, hl1⟩ := byteAt_lt s (k - 1)
          have hlo := Lib.hid (show digB false (byteAt s (k - 1)) = true → leftOk s false 0 k from fun h => ⟨by omega, .inr ⟨by omega, h⟩⟩)
          have hln := Lib.hid (show digB false (byteAt s (k - 1)) = false → ¬ leftOk s false 0 k from fun h g => by
            rcases g.2 with g | ⟨_, g⟩
            · omega
            · rw [h] at g; cases g)
          generalize byteAt s (k - 1) = l at *
          cases hdl : digB false l
          · have HF := Lib.hid (hno.out C95.out (.inl (hln.out hdl)))
            go_wp2_with (go_at_call 7; with_reducible refine (dig_any l false false _ hl0 hl1 hdl).mono ?_; rintro e w' ⟨rfl, rfl⟩)
            go_ret
            exact par_false HF.out
          · have HLO := Lib.hid (hlo.out hdl)
            by_cases hr : k + 1 = s.size
            · have r1 : ((k:Int) + 1 == (s.size : Int)) = true := by simp; omega
              have HF := Lib.hid (hno.out C95.out (.inr fun h => by have := h.1; omega))
              have HR := Lib.hid hr; clear hr
              go_wp2_with (go_at_call 7; with_reducible refine (dig_any l false true _ hl0 hl1 hdl).mono ?_; rintro e w' ⟨rfl, rfl⟩)
              go_ret
              exact par_false HF.out
            · have r1 : ((k:Int) + 1 == (s.size : Int)) = false := by simp; omega
              have hr' : (k : Int) + 1 < (s.size : Int) := by omega
              have hr2 : k + 1 < s.size := by omega
              have hgr := byteAt_get s (k + 1) hr2
              obtain ⟨hr0, hr1⟩ := byteAt_lt s (k + 1)
              have hro := Lib.hid (show digB false (byteAt s (k + 1)) = true → rightOk s false k from fun h => ⟨hr2, h⟩)
              have hrn := Lib.hid (show digB false (byteAt s (k + 1)) = false → ¬ rightOk s false k from fun h g => by have := g.2; rw [h] at this; cases this)
              generalize byteAt s (k + 1) = r at *
              cases hdr : digB false r
              · have HF := Lib.hid (hno.out C95.out (.inr (hrn.out hdr)))
                go_wp2_with (first | (go_at_call 7; with_reducible refine (dig_any l false true _ hl0 hl1 hdl).mono ?_; rintro e w' ⟨rfl, rfl⟩) | (go_at_call 7; with_reducible refine (dig_any r false false _ hr0 hr1 hdr).mono ?_; rintro e w' ⟨rfl, rfl⟩))
                go_ret
                exact par_false HF.out
              · have HT := Lib.hid (hon.out fun _ => ⟨HLO.out, hro.out hdr⟩)
                go_wp2_with (first | (go_at_call 7; with_reducible refine (dig_any l false true _ hl0 hl1 hdl).mono ?_; rintro e w' ⟨rfl, rfl⟩) | (go_at_call 7; with_reducible refine (dig_any r false true _ hr0 hr1 hdr).mono ?_; rintro e w' ⟨rfl, rfl⟩))
                go_roundg (s.size - (k + 1))
                case measure => omega
                case rel => exact ⟨rfl, k + 1, rfl, by omega, by go_num, HT.out⟩
      · have t1 : (c != 95) = true := by simp [h95]
        have N95 := Lib.hid h95; clear h95
        go_wp2
        go_roundg (s.size - (k + 1))
        case measure => omega
        case rel => exact ⟨rfl, k + 1, rfl, by omega, by go_num, hon.out (fun h => absurd h N95.out)⟩
    · obtain rfl : k = s.size := by omega
      go_wp2
      go_ret
      exact par_true hok.out

set_option maxHeartbeats 4000000 in
theorem parted_not0 (s : ByteArray) (w : World) (hs : s.size ≤ maxLen) (h2 : 1 < s.size) (c0 : Int) (h0 : (s[0].toNat : Int) = c0) (e0 : (c0 == 48) = false) :
    Calls Try.prog 5 #[.string s] w (ParPost s false 0 w) := by
  unfold maxLen at hs
  have h2' : (1:Int) < (s.size : Int) := by omega
  go_enter Try.func5, Try.ntmps5
  go_wp2
  go_loopg [5] s.size (fun g i wr => wr = w ∧ ∃ k : Nat, g = s.size - k ∧ k ≤ s.size ∧ i = .int .i64 k ∧ Hid (partedTo s false 0 k))
  case atStart => exact ⟨rfl, 0, rfl, by omega, rfl, fun j hj => by omega⟩
  case round =>
    obtain ⟨rfl, k, rfl, hkn, rfl, hok⟩ := hrel
    by_cases hlt : k < s.size
    · have hk' : (k : Int) < (s.size : Int) := by omega
      obtain ⟨hb0, hb1⟩ := byteAt_lt s k
      have hg := byteAt_get s k hlt
      have hon := Lib.hid (parted_next hok.out)
      have hno := Lib.hid (parted_not (hex := false) (st := 0) hlt)
      generalize byteAt s k = c at *
      by_cases h95 : c = 95
      · have t1 : (c != 95) = false := by simp [h95]
        have C95 := Lib.hid h95; clear h95
        by_cases hk0 : k ≤ 0
        · have k1 : ¬ (0:Int) < (k : Int) := by omega
          have HF := Lib.hid (hno.out C95.out (.inl fun h => by have := h.1; omega))
          go_wp2
          all_goals
            go_ret
            exact par_false HF.out
        · have k1 : (0:Int) < (k : Int) := by omega
          have k2 : ((k:Int) == 0) = false := by simp; omega
          have hgl := byteAt_get s (k - 1) (by omega)
          obtain ⟨hl0, hl1⟩ := byteAt_lt s (k - 1)
          have hlo := Lib.hid (show digB false (byteAt s (k - 1)) = true → leftOk s false 0 k from fun h => ⟨by omega, .inr ⟨by omega, h⟩⟩)
          have hln := Lib.hid (show digB false (byteAt s (k - 1)) = false → ¬ leftOk s false 0 k from fun h g => by
            rcases g.2 with g | ⟨_, g⟩
            · omega
            · rw [h] at g; cases g)
          generalize byteAt s (k - 1) = l at *
          cases hdl : digB false l
          · have HF := Lib.hid (hno.out C95.out (.inl (hln.out hdl)))
            go_wp2_with (go_at_call 7; with_reducible refine (dig_any l false false _ hl0 hl1 hdl).mono ?_; rintro e w' ⟨rfl, rfl⟩)
            go_ret
            exact par_false HF.out
          · have HLO := Lib.hid (hlo.out hdl)
            by_cases hr : k + 1 = s.size
            · have r1 : ((k:Int) + 1 == (s.size : Int)) = true := by simp; omega
              have HF := Lib.hid (hno.out C95.out (.inr fun h => by have := h.1; omega))
              have HR := Lib.hid hr; clear hr
              go_wp2_with (go_at_call 7; with_reducible refine (dig_any l false true _ hl0 hl1 hdl).mono ?_; rintro e w' ⟨rfl, rfl⟩)
              go_ret
              exact par_false HF.out
            · have r1 : ((k:Int) + 1 == (s.size : Int)) = false := by simp; omega
              have hr' : (k : Int) + 1 < (s.size : Int) := by omega
              have hr2 : k + 1 < s.size := by omega
              have hgr := byteAt_get s (k + 1) hr2
              obtain ⟨hr0, hr1⟩ := byteAt_lt s (k + 1)
              have hro := Lib.hid (show digB false (byteAt s (k + 1)) = true → rightOk s false k from fun h => ⟨hr2, h⟩)
              have hrn := Lib.hid (show digB false (byteAt s (k + 1)) = false → ¬ rightOk s false k from fun h g => by have := g.2; rw [h] at this; cases this)
              generalize byteAt s (k + 1) = r at *
              cases hdr : digB false r
              · have HF := Lib.hid (hno.out C95.out (.inr (hrn.out hdr)))
                go_wp2_with (first | (go_at_call 7; with_reducible refine (dig_any l false true _ hl0 hl1 hdl).mono ?_; rintro e w' ⟨rfl, rfl⟩) | (go_at_call 7; with_reducible refine (dig_any r false false _ hr0 hr1 hdr).mono ?_; rintro e w' ⟨rfl, rfl⟩))
                go_ret
                exact par_false HF.out
              · have HT := Lib.hid (hon.out fun _ => ⟨HLO.out, hro.out hdr⟩)
                go_wp2_with (first | (go_at_call 7; with_reducible refine (dig_any l false true _ hl0 hl1 hdl).mono ?_; rintro e w' ⟨rfl, rfl⟩) | (go_at_call 7; with_reducible refine (dig_any r false true _ hr0 hr1 hdr).mono ?_; rintro e w' ⟨rfl, rfl⟩))
                go_roundg (s.size - (k + 1))
                case measure => omega
                case rel => exact ⟨rfl, k + 1, rfl, by omega, by go_num, HT.out⟩
      · have t1 : (c != 95) = true := by simp [h95]
        have N95 := Lib.hid h95; clear h95
        go_wp2
        go_roundg (s.size - (k + 1))
        case measure => omega
        case rel => exact ⟨rfl, k + 1, rfl, by omega, by go_num, hon.out (fun h => absurd h N95.out)⟩
    · obtain rfl : k = s.size := by omega
      go_wp2
      go_ret
      exact par_true hok.out

set_option maxHeartbeats 4000000 in
theorem parted_short (s : ByteArray) (w : World) (hs : s.size ≤ maxLen) (h2 : ¬ (1:Int) < (s.size : Int)) :
    Calls Try.prog 5 #[.string s] w (ParPost s false 0 w) := by
  unfold maxLen at hs
  go_enter Try.func5, Try.ntmps5
  go_wp2
  go_loopg [5] s.size (fun g i wr => wr = w ∧ ∃ k : Nat, g = s.size - k ∧ k ≤ s.size ∧ i = .int .i64 k ∧ Hid (partedTo s false 0 k))
  case atStart => exact ⟨rfl, 0, rfl, by omega, rfl, fun j hj => by omega⟩
  case round =>
    obtain ⟨rfl, k, rfl, hkn, rfl, hok⟩ := hrel
    by_cases hlt : k < s.size
    · have hk' : (k : Int) < (s.size : Int) := by omega
      obtain ⟨hb0, hb1⟩ := byteAt_lt s k
      have hg := byteAt_get s k hlt
      have hon := Lib.hid (parted_next hok.out)
      have hno := Lib.hid (parted_not (hex := false) (st := 0) hlt)
      generalize byteAt s k = c at *
      by_cases h95 : c = 95
      · have t1 : (c != 95) = false := by simp [h95]
        have C95 := Lib.hid h95; clear h95
        by_cases hk0 : k ≤ 0
        · have k1 : ¬ (0:Int) < (k : Int) := by omega
          have HF := Lib.hid (hno.out C95.out (.inl fun h => by have := h.1; omega))
          go_wp2
          all_goals
            go_ret
            exact par_false HF.out
        · exact absurd hlt (by omega)
      · have t1 : (c != 95) = true := by simp [h95]
        have N95 := Lib.hid h95; clear h95
        go_wp2
        go_roundg (s.size - (k + 1))
        case measure => omega
        case rel => exact ⟨rfl, k + 1, rfl, by omega, by go_num, hon.out (fun h => absurd h N95.out)⟩
    · obtain rfl : k = s.size := by omega
      go_wp2
      go_ret
      exact par_true hok.out

end Go.Proofs.Ytnehkpoggkfikaa
