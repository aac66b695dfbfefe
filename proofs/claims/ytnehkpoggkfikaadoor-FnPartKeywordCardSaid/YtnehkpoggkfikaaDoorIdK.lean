/-
  The keyword of a hash, walked; letters of names, walked. Conditions: each law's own.
-/
import Derived.Test.YtnehkpoggkfikaaDoorIdB
import Derived.Test.YtnehkpoggkfikaaDoorDoorB
namespace Go.Proofs.YtnehkpoggkfikaaDoor
open Go.RowKit
set_option linter.unusedVariables false

theorem below_drewN {N : Nat} {w w' : World} (h : Below N w w') (k : Nat) : Below N w (w'.drewN k) := ⟨h.os, h.tape, h.output, h.size, h.block⟩
/-- The hash of a string's bytes, laid anew. -/
theorem hash_bytes (s : ByteArray) (cap : Nat) (W : World) (m : Nat) (fz : Nat × Nat) (hl : 2 ≤ s.size) (hl2 : s.size ≤ 100000) :
    Calls Tryd.prog 103 #[.slice (some ⟨W.heap.size, 0, none⟩) s.size cap] ((W.drewN m).alloc (.cells (bytesRow s cap) 5 fz)) fun e w' => e = .returned (.int .u64 (hashS s)) ∧ Below W.heap.size W w' := by
  have c := bytes_src (W.drewN m) s cap fz s.data.toList rfl
  have hb : ∀ (i : Nat) (hi : i < s.size), (bytesV s.data.toList)[i]? = some (.int .u8 (s[i].toNat : Int)) := fun i hi => by
    unfold bytesV
    rw [List.getElem?_map, List.getElem?_eq_getElem (by simpa using hi)]
    rfl
  have e : hashS s = hashV (s[0].toNat : Int) (s[1].toNat : Int) s.size := by
    unfold hashS bAt
    rw [dif_pos (by omega), dif_pos (by omega)]
  rw [e]
  refine (hash_calls W.heap.size s.size cap s[0].toNat s[1].toNat _ ?_ ?_ (c 0 _ (hb 0 (by omega))) (c 1 _ (hb 1 (by omega))) (by omega) (by omega)).mono ?_
  · have := UInt8.toNat_lt s[0]; omega
  · have := UInt8.toNat_lt s[1]; omega
  · rintro e w' ⟨rfl, k, rfl⟩
    exact ⟨rfl, below_drewN ((below_drewN (Below.refl W.heap.size W) m).alloc (Nat.le_refl _) _) k⟩
/-- No keyword ahead of t has this hash. -/
def NoKw (hv : Int) (t : Nat) : Prop := ∀ u, 22 ≤ u → u < t → hashS (kwS u) ≠ hv
/-- The keyword of a hash, if there is one. -/
def KwPost (hv : Int) (w : World) (e : Ending) (w' : World) : Prop := (∃ t : Nat, e = .returned (.int .u64 (t : Int)) ∧ ((t = 0 ∧ NoKw hv 47) ∨ (22 ≤ t ∧ t ≤ 46 ∧ hashS (kwS t) = hv))) ∧ Below w.heap.size w w'
theorem kwPost_yes {hv : Int} {w w' : World} {t : Nat} (h1 : 22 ≤ t) (h2 : t ≤ 46) (h3 : hashS (kwS t) = hv) (hB : Below w.heap.size w w') : KwPost hv w (.returned (.int .u64 (t : Int))) w' := ⟨⟨t, rfl, .inr ⟨h1, h2, h3⟩⟩, hB⟩
theorem kwPost_no {hv : Int} {w w' : World} (h : NoKw hv 47) (hB : Below w.heap.size w w') : KwPost hv w (.returned (.int .u64 0)) w' := ⟨⟨0, rfl, .inl ⟨rfl, h⟩⟩, hB⟩

set_option maxRecDepth 100000 in
set_option maxHeartbeats 1000000 in
theorem keywordOf_calls (hv : Int) (w : World) (h : Tabs w) (hz : 12 ≤ w.heap.size) : Calls Tryd.prog 102 #[.int .u64 hv] w (KwPost hv w) := by
  have hcv := fun w s => run_bytes_of_string (P := Tryd.prog) w 9 41 5 s Tryd.underlying9 Tryd.underlying41 Tryd.underlying5
  have H := Lib.hid h
  have HZ := Lib.hid hz
  have HB0 := Lib.hid (Below.refl w.heap.size w)
  clear h hz
  go_enter Tryd.func102, Tryd.ntmps102
  go_wp2_with fail
  go_loopw [3] (fun t wr => ∃ k : Nat, (22 : Int) ≤ (k : Int) ∧ (k : Int) ≤ 47 ∧ t = .int .u64 k ∧ Hid (NoKw hv k ∧ Below w.heap.size w wr)) (fun t _ => 47 - (intOf t).toNat)
  case atStart => exact ⟨22, by omega, by omega, rfl, fun u h1 h2 => by omega, HB0.out⟩
  case round =>
    obtain ⟨k, hk1, hk2, rfl, hd⟩ := hrel
    by_cases hlt : (k : Int) ≤ 46
    · have hT : Hid (Tabs wr) := H.out.below HZ.out hd.out.2
      have hs := kw_size (t := k) (by omega) (by omega)
      have HS := Lib.hid hs
      clear hs
      go_wp2_with (go_at_call 104; refine (tokStr_calls k _ hT.out (.inr (by omega)) (by omega) hlt).mono ?_; rintro e w1 ⟨rfl, n1, rfl⟩)
      go_at_call 103
      refine (hash_bytes (kwS k) _ wr (n1 + 1) _ HS.out.1 (by have := HS.out.2; omega)).mono ?_
      rintro e w2 ⟨rfl, hB2⟩
      have HB2 : Hid (Below w.heap.size w w2) := hd.out.2.trans (hB2.mono hd.out.2.size)
      clear hB2
      by_cases he : hashS (kwS k) = hv
      · have te : (hashS (kwS k) == hv) = true := by simp [he]
        have HE := Lib.hid he
        clear he
        go_wp2_with fail
        go_ret
        exact kwPost_yes (by omega) (by omega) HE.out HB2.out
      · have te : (hashS (kwS k) == hv) = false := by simp [he]
        have HN : Hid (NoKw hv (k + 1)) := fun u h1 h2 => by
          rcases Nat.lt_or_ge u k with h | h
          · exact hd.out.1 u h1 h
          · obtain rfl : u = k := by omega
            exact he
        clear he
        go_wp2_with fail
        go_roundw
        case rel => exact ⟨k + 1, by omega, by omega, by go_num, HN.out, HB2.out⟩
        case measure => simp [intOf]; omega
    · obtain rfl : k = 47 := by omega
      go_wp2_with fail
      go_ret
      exact kwPost_no hd.out.1 hd.out.2
end Go.Proofs.YtnehkpoggkfikaaDoor
