/-
  The walk through the statements' own Quoted: each character by its number. Conditions: the law's own. (Printed by genquo.py.)
-/
import Derived.Test.YtnehkpoggkfikaaDoorQuoL
namespace Go.Proofs.YtnehkpoggkfikaaDoor
open Go.RowKit
set_option linter.unusedVariables false

set_option maxRecDepth 100000 in
set_option maxHeartbeats 8000000 in
theorem quoted_full (s : ByteArray) (q : Nat) (all : List Nat) (w : World) (hq : q = 34 ∨ q = 39) (hs : s.data.toList = encs all) (ho : okAll all) (h60 : s.size ≤ 60) :
    Calls Tryd.prog 27 #[.string s, .int .u8 (q : Int), .bool true] w fun e w' => e = .returned (.string ⟨(encs (q :: (unitsQ q true all ++ [q]))).toArray⟩) ∧ Below w.heap.size w w' := by
  obtain ⟨i0, hi, hz0, hz1, hz2⟩ := info_parts info5
  have HI := Lib.hid hi
  have HZ := Lib.hid (And.intro hz0 (And.intro hz1 hz2))
  have HS := Lib.hid (runAt_start hs ho)
  have HQ := Lib.hid hq
  have H0 := Lib.hid (qAt_start w s q.toUInt8)
  rw [q_val hq] at H0
  have Hq : Hid (encs [q] = [q.toUInt8]) := by show _ = _; rcases hq with rfl | rfl <;> decide +kernel
  have hq8 : IntKind.u8.wrap (q : Int) = (q : Int) := IntWalk.u8_in _ (by omega)
  have hqb : (q : Int) < 128 := by omega
  clear hi hz0 hz1 hz2 hs ho hq
  go_enter Tryd.func27, Tryd.ntmps27
  go_wp2_with fail
  go_loopg [7] (all.length + 5) (fun g v wr => ∃ (v0 : Value) (rs rest : List Nat) (pos : Nat) (T : List UInt8), v = v0 ∧ g = rest.length + 5 ∧ Hid (RunAt s all rs rest pos) ∧ Hid (QAt w wr s (w.heap.size + 1) pos v0 T) ∧ Hid (T = encs (q :: unitsQ q true rs) ∧ T.length ≤ 10 * rs.length + 1))
  case atStart => exact ⟨_, [], all, 0, [q.toUInt8], rfl, rfl, HS.out, H0.out, Hq.out.symm, by simp⟩
  case round =>
    obtain ⟨v, rs, rest, pos, T, rfl, rfl, hR, hQ0, hT⟩ := hrel
    have hTL : Hid (T.length ≤ 601) := by
      have h1 := run_small hR.out h60
      have h2 := hT.out.2
      show T.length ≤ 601
      omega
    cases rest with
    | nil =>
      have hE := Lib.hid (runAt_end hR.out)
      have hnx : ∀ ty, (Instr.next (.pointer (some ⟨w.heap.size + 1, 0, none⟩)) true ty).run Tryd.prog wr = _ := fun ty => Lib.run_next_end_at wr (w.heap.size + 1) s pos ty hQ0.out.it hE.out.1
      have hQ := hQ0
      go_wp2_with (at_builtin; refine wpList_append_own _ rfl (.tmp 90) (.tmp 92) 41 rfl w.heap.size 5 i0 _ 1 1 Tryd.underlying41 HI.out HZ.out.1 HZ.out.2.1 HZ.out.2.2 rfl (by decide) _ _ _ rfl (hQ.out.own.alloc _) ⟨wr.heap.size, 0, none⟩ 1 1 [.int .u8 (q : Int)] rfl rfl ?c1z1 ?c2z1 ?c3z1 ?c4z1 ?c5z1 ?nextz1)
      any_goals (first | exact new_cells _ _ | skip)
      case c2z1 => simp [Value.oneCell']
      case c3z1 => have := hTL.out; unfold maxLen; omega
      case c4z1 => have := hTL.out; omega
      case c5z1 => have := hQ.out.size; simp; omega
      case nextz1 =>
        intro v' w' hown' hgrow _
        have hQ2 := Lib.hid (hQ.out.append0 (news := [q.toUInt8]) hown' hgrow (by simp) (by simp only [bytesV, List.map_cons, List.map_nil]; rw [q_val HQ.out]))
        obtain ⟨g, cap, rfl, hcv⟩ := bytes_cells (T ++ [q.toUInt8]) hown' (by simp only [bytesV, List.map_append, List.map_cons, List.map_nil]; rw [q_val HQ.out]) (by simp) (by omega)
        have hfin : Hid (T ++ [q.toUInt8] = encs (q :: (unitsQ q true all ++ [q]))) := by
          have e := hT.out.1
          have e2 := hE.out.2
          show _ = _
          rw [← e2, e]
          have := Hq.out
          simp only [encs, List.append_nil] at this
          simp only [encs, encs_append, this, List.append_assoc, List.append_nil]
        clear hown' hgrow
        go_wp2_with fail
        go_ret
        rw [hfin.out]
        exact ⟨rfl, hQ2.out.below⟩
    | cons x rest =>
      obtain ⟨hp, hdec, hokx, hr2⟩ := runAt_next hR.out
      have hnx2 := Lib.hid hr2
      have hnx : ∀ ty, (Instr.next (.pointer (some ⟨w.heap.size + 1, 0, none⟩)) true ty).run Tryd.prog wr = _ := fun ty => Lib.run_next_any_at wr (w.heap.size + 1) s pos ty hQ0.out.it hp
      rw [hdec] at hnx
      simp only at hnx
      have hQn := hQ0.out.next (pos + (enc x).length)
      obtain ⟨wi, hwi⟩ : ∃ wi, wi = wr.iterAt (w.heap.size + 1) s (pos + (enc x).length) := ⟨_, rfl⟩
      rw [← hwi] at hnx hQn
      have hQ := Lib.hid hQn
      clear hQn hwi
      have hok := Lib.hid hokx
      clear hp hdec hr2 hokx
      go_wp2_with (at_builtin; refine wpList_append_own _ rfl (.tmp 43) (.tmp 44) 41 rfl w.heap.size 5 i0 _ 1 1 Tryd.underlying41 HI.out HZ.out.1 HZ.out.2.1 HZ.out.2.2 rfl (by decide) _ _ _ rfl (hQ.out.own.alloc _) ⟨wi.heap.size, 0, none⟩ 2 2 [.int .u8 92, .int .u8 85] rfl rfl ?c1z2 ?c2z2 ?c3z2 ?c4z2 ?c5z2 ?nextz2)
      any_goals (first | exact new_cells _ _ | skip)
      case c2z2 => simp [Value.oneCell']
      case c3z2 => have := hTL.out; unfold maxLen; omega
      case c4z2 => have := hTL.out; omega
      case c5z2 => have := hQ.out.size; simp; omega
      case nextz2 =>
        intro v' w' hown' hgrow _
        have hQ2 := Lib.hid (hQ.out.append0 (news := [92, 85]) hown' hgrow (by simp) rfl)
        have hx31 : Hid (x < 2147483648) := by have := hok.out; unfold okR at this; show x < 2147483648; omega
        clear hown' hgrow hnx
        go_wp2_with fail
        go_loopg [7, 10] 20 (fun g v kk wj => ∃ (v1 : Value) (j : Nat), v = v1 ∧ g = 20 - j ∧ j ≤ 8 ∧ kk = .int .i64 (28 - 4 * (j : Int)) ∧ Hid (QAt w wj s (w.heap.size + 1) (pos + (enc x).length) v1 (T ++ [92, 85] ++ (hexB x).take j)))
        case atStart => exact ⟨_, 0, rfl, rfl, by omega, rfl, Lib.hid (by simpa using hQ2.out)⟩
        case round =>
          obtain ⟨v1, j, rfl, rfl, hj, rfl, hQ⟩ := hrel
          obtain rfl | rfl | rfl | rfl | rfl | rfl | rfl | rfl | rfl : j = 0 ∨ j = 1 ∨ j = 2 ∨ j = 3 ∨ j = 4 ∨ j = 5 ∨ j = 6 ∨ j = 7 ∨ j = 8 := by omega
          · obtain ⟨d, hd⟩ : ∃ d, d = x / 268435456 % 16 := ⟨_, rfl⟩
            have hb : bits BinOp.and IntKind.i32 ((x : Int) / 268435456) 15 = (d : Int) := by
              rw [hd]; exact and15d x 268435456 hx31.out
            have hd16 : d < 16 := by omega
            have hd0 : (0 : Int) ≤ (d : Int) := by omega
            have hd1 : (d : Int) < 16 := by omega
            have hat := hexAt d hd16
            have hst : Hid ((hexB x).take 1 = (hexB x).take 0 ++ [(hexC d).toUInt8] ∧ (hexC d).toUInt8.toNat = hexC d) := by
              refine ⟨?_, hexC_val d hd16⟩
              rw [hd]; rfl
            have hlen : Hid ((T ++ [92, 85] ++ (hexB x).take 0).length ≤ 611) := by
              have h1 := hTL.out
              have h2 := hexB_len x
              show _ ≤ _
              simp only [List.length_append, List.length_take, List.length_cons, List.length_nil]; omega
            clear hd
            generalize hTT : T ++ [92, 85] ++ (hexB x).take 0 = TT at *
            have hTT := Lib.hid hTT
            go_wp2_with (at_builtin; refine wpList_append_own _ rfl (.tmp 50) (.tmp 56) 41 rfl w.heap.size 5 i0 _ 1 1 Tryd.underlying41 HI.out HZ.out.1 HZ.out.2.1 HZ.out.2.2 rfl (by decide) _ _ _ rfl (hQ.out.own.alloc _) ⟨wr.heap.size, 0, none⟩ 1 1 [.int .u8 ((hexC d : Nat) : Int)] rfl rfl ?c1z3 ?c2z3 ?c3z3 ?c4z3 ?c5z3 ?nextz3)
            any_goals (first | exact new_cells _ _ | skip)
            case c2z3 => simp [Value.oneCell']
            case c3z3 => have := hlen.out; unfold maxLen; omega
            case c4z3 => have := hlen.out; omega
            case c5z3 => have := hQ.out.size; simp; omega
            case nextz3 =>
              intro v2 w2 hown' hgrow _
              have hQ3 := Lib.hid (hQ.out.append0 (news := [(hexC d).toUInt8]) hown' hgrow (by simp) (by simp only [bytesV, List.map_cons, List.map_nil]; rw [hst.out.2]))
              have hQ4 : Hid (QAt w w2 s (w.heap.size + 1) (pos + (enc x).length) v2 (T ++ [92, 85] ++ (hexB x).take 1)) := by
                show QAt _ _ _ _ _ _ _
                rw [hst.out.1, ← List.append_assoc, hTT.out]; exact hQ3.out
              clear hown' hgrow
              go_wp2_with fail
              go_roundg (20 - 1)
              case measure => omega
              case rel => exact ⟨v2, 1, rfl, rfl, by omega, by go_num, hQ4.out⟩
          · obtain ⟨d, hd⟩ : ∃ d, d = x / 16777216 % 16 := ⟨_, rfl⟩
            have hb : bits BinOp.and IntKind.i32 ((x : Int) / 16777216) 15 = (d : Int) := by
              rw [hd]; exact and15d x 16777216 hx31.out
            have hd16 : d < 16 := by omega
            have hd0 : (0 : Int) ≤ (d : Int) := by omega
            have hd1 : (d : Int) < 16 := by omega
            have hat := hexAt d hd16
            have hst : Hid ((hexB x).take 2 = (hexB x).take 1 ++ [(hexC d).toUInt8] ∧ (hexC d).toUInt8.toNat = hexC d) := by
              refine ⟨?_, hexC_val d hd16⟩
              rw [hd]; rfl
            have hlen : Hid ((T ++ [92, 85] ++ (hexB x).take 1).length ≤ 611) := by
              have h1 := hTL.out
              have h2 := hexB_len x
              show _ ≤ _
              simp only [List.length_append, List.length_take, List.length_cons, List.length_nil]; omega
            clear hd
            generalize hTT : T ++ [92, 85] ++ (hexB x).take 1 = TT at *
            have hTT := Lib.hid hTT
            go_wp2_with (at_builtin; refine wpList_append_own _ rfl (.tmp 50) (.tmp 56) 41 rfl w.heap.size 5 i0 _ 1 1 Tryd.underlying41 HI.out HZ.out.1 HZ.out.2.1 HZ.out.2.2 rfl (by decide) _ _ _ rfl (hQ.out.own.alloc _) ⟨wr.heap.size, 0, none⟩ 1 1 [.int .u8 ((hexC d : Nat) : Int)] rfl rfl ?c1z4 ?c2z4 ?c3z4 ?c4z4 ?c5z4 ?nextz4)
            any_goals (first | exact new_cells _ _ | skip)
            case c2z4 => simp [Value.oneCell']
            case c3z4 => have := hlen.out; unfold maxLen; omega
            case c4z4 => have := hlen.out; omega
            case c5z4 => have := hQ.out.size; simp; omega
            case nextz4 =>
              intro v2 w2 hown' hgrow _
              have hQ3 := Lib.hid (hQ.out.append0 (news := [(hexC d).toUInt8]) hown' hgrow (by simp) (by simp only [bytesV, List.map_cons, List.map_nil]; rw [hst.out.2]))
              have hQ4 : Hid (QAt w w2 s (w.heap.size + 1) (pos + (enc x).length) v2 (T ++ [92, 85] ++ (hexB x).take 2)) := by
                show QAt _ _ _ _ _ _ _
                rw [hst.out.1, ← List.append_assoc, hTT.out]; exact hQ3.out
              clear hown' hgrow
              go_wp2_with fail
              go_roundg (20 - 2)
              case measure => omega
              case rel => exact ⟨v2, 2, rfl, rfl, by omega, by go_num, hQ4.out⟩
          · obtain ⟨d, hd⟩ : ∃ d, d = x / 1048576 % 16 := ⟨_, rfl⟩
            have hb : bits BinOp.and IntKind.i32 ((x : Int) / 1048576) 15 = (d : Int) := by
              rw [hd]; exact and15d x 1048576 hx31.out
            have hd16 : d < 16 := by omega
            have hd0 : (0 : Int) ≤ (d : Int) := by omega
            have hd1 : (d : Int) < 16 := by omega
            have hat := hexAt d hd16
            have hst : Hid ((hexB x).take 3 = (hexB x).take 2 ++ [(hexC d).toUInt8] ∧ (hexC d).toUInt8.toNat = hexC d) := by
              refine ⟨?_, hexC_val d hd16⟩
              rw [hd]; rfl
            have hlen : Hid ((T ++ [92, 85] ++ (hexB x).take 2).length ≤ 611) := by
              have h1 := hTL.out
              have h2 := hexB_len x
              show _ ≤ _
              simp only [List.length_append, List.length_take, List.length_cons, List.length_nil]; omega
            clear hd
            generalize hTT : T ++ [92, 85] ++ (hexB x).take 2 = TT at *
            have hTT := Lib.hid hTT
            go_wp2_with (at_builtin; refine wpList_append_own _ rfl (.tmp 50) (.tmp 56) 41 rfl w.heap.size 5 i0 _ 1 1 Tryd.underlying41 HI.out HZ.out.1 HZ.out.2.1 HZ.out.2.2 rfl (by decide) _ _ _ rfl (hQ.out.own.alloc _) ⟨wr.heap.size, 0, none⟩ 1 1 [.int .u8 ((hexC d : Nat) : Int)] rfl rfl ?c1z5 ?c2z5 ?c3z5 ?c4z5 ?c5z5 ?nextz5)
            any_goals (first | exact new_cells _ _ | skip)
            case c2z5 => simp [Value.oneCell']
            case c3z5 => have := hlen.out; unfold maxLen; omega
            case c4z5 => have := hlen.out; omega
            case c5z5 => have := hQ.out.size; simp; omega
            case nextz5 =>
              intro v2 w2 hown' hgrow _
              have hQ3 := Lib.hid (hQ.out.append0 (news := [(hexC d).toUInt8]) hown' hgrow (by simp) (by simp only [bytesV, List.map_cons, List.map_nil]; rw [hst.out.2]))
              have hQ4 : Hid (QAt w w2 s (w.heap.size + 1) (pos + (enc x).length) v2 (T ++ [92, 85] ++ (hexB x).take 3)) := by
                show QAt _ _ _ _ _ _ _
                rw [hst.out.1, ← List.append_assoc, hTT.out]; exact hQ3.out
              clear hown' hgrow
              go_wp2_with fail
              go_roundg (20 - 3)
              case measure => omega
              case rel => exact ⟨v2, 3, rfl, rfl, by omega, by go_num, hQ4.out⟩
          · obtain ⟨d, hd⟩ : ∃ d, d = x / 65536 % 16 := ⟨_, rfl⟩
            have hb : bits BinOp.and IntKind.i32 ((x : Int) / 65536) 15 = (d : Int) := by
              rw [hd]; exact and15d x 65536 hx31.out
            have hd16 : d < 16 := by omega
            have hd0 : (0 : Int) ≤ (d : Int) := by omega
            have hd1 : (d : Int) < 16 := by omega
            have hat := hexAt d hd16
            have hst : Hid ((hexB x).take 4 = (hexB x).take 3 ++ [(hexC d).toUInt8] ∧ (hexC d).toUInt8.toNat = hexC d) := by
              refine ⟨?_, hexC_val d hd16⟩
              rw [hd]; rfl
            have hlen : Hid ((T ++ [92, 85] ++ (hexB x).take 3).length ≤ 611) := by
              have h1 := hTL.out
              have h2 := hexB_len x
              show _ ≤ _
              simp only [List.length_append, List.length_take, List.length_cons, List.length_nil]; omega
            clear hd
            generalize hTT : T ++ [92, 85] ++ (hexB x).take 3 = TT at *
            have hTT := Lib.hid hTT
            go_wp2_with (at_builtin; refine wpList_append_own _ rfl (.tmp 50) (.tmp 56) 41 rfl w.heap.size 5 i0 _ 1 1 Tryd.underlying41 HI.out HZ.out.1 HZ.out.2.1 HZ.out.2.2 rfl (by decide) _ _ _ rfl (hQ.out.own.alloc _) ⟨wr.heap.size, 0, none⟩ 1 1 [.int .u8 ((hexC d : Nat) : Int)] rfl rfl ?c1z6 ?c2z6 ?c3z6 ?c4z6 ?c5z6 ?nextz6)
            any_goals (first | exact new_cells _ _ | skip)
            case c2z6 => simp [Value.oneCell']
            case c3z6 => have := hlen.out; unfold maxLen; omega
            case c4z6 => have := hlen.out; omega
            case c5z6 => have := hQ.out.size; simp; omega
            case nextz6 =>
              intro v2 w2 hown' hgrow _
              have hQ3 := Lib.hid (hQ.out.append0 (news := [(hexC d).toUInt8]) hown' hgrow (by simp) (by simp only [bytesV, List.map_cons, List.map_nil]; rw [hst.out.2]))
              have hQ4 : Hid (QAt w w2 s (w.heap.size + 1) (pos + (enc x).length) v2 (T ++ [92, 85] ++ (hexB x).take 4)) := by
                show QAt _ _ _ _ _ _ _
                rw [hst.out.1, ← List.append_assoc, hTT.out]; exact hQ3.out
              clear hown' hgrow
              go_wp2_with fail
              go_roundg (20 - 4)
              case measure => omega
              case rel => exact ⟨v2, 4, rfl, rfl, by omega, by go_num, hQ4.out⟩
          · obtain ⟨d, hd⟩ : ∃ d, d = x / 4096 % 16 := ⟨_, rfl⟩
            have hb : bits BinOp.and IntKind.i32 ((x : Int) / 4096) 15 = (d : Int) := by
              rw [hd]; exact and15d x 4096 hx31.out
            have hd16 : d < 16 := by omega
            have hd0 : (0 : Int) ≤ (d : Int) := by omega
            have hd1 : (d : Int) < 16 := by omega
            have hat := hexAt d hd16
            have hst : Hid ((hexB x).take 5 = (hexB x).take 4 ++ [(hexC d).toUInt8] ∧ (hexC d).toUInt8.toNat = hexC d) := by
              refine ⟨?_, hexC_val d hd16⟩
              rw [hd]; rfl
            have hlen : Hid ((T ++ [92, 85] ++ (hexB x).take 4).length ≤ 611) := by
              have h1 := hTL.out
              have h2 := hexB_len x
              show _ ≤ _
              simp only [List.length_append, List.length_take, List.length_cons, List.length_nil]; omega
            clear hd
            generalize hTT : T ++ [92, 85] ++ (hexB x).take 4 = TT at *
            have hTT := Lib.hid hTT
            go_wp2_with (at_builtin; refine wpList_append_own _ rfl (.tmp 50) (.tmp 56) 41 rfl w.heap.size 5 i0 _ 1 1 Tryd.underlying41 HI.out HZ.out.1 HZ.out.2.1 HZ.out.2.2 rfl (by decide) _ _ _ rfl (hQ.out.own.alloc _) ⟨wr.heap.size, 0, none⟩ 1 1 [.int .u8 ((hexC d : Nat) : Int)] rfl rfl ?c1z7 ?c2z7 ?c3z7 ?c4z7 ?c5z7 ?nextz7)
            any_goals (first | exact new_cells _ _ | skip)
            case c2z7 => simp [Value.oneCell']
            case c3z7 => have := hlen.out; unfold maxLen; omega
            case c4z7 => have := hlen.out; omega
            case c5z7 => have := hQ.out.size; simp; omega
            case nextz7 =>
              intro v2 w2 hown' hgrow _
              have hQ3 := Lib.hid (hQ.out.append0 (news := [(hexC d).toUInt8]) hown' hgrow (by simp) (by simp only [bytesV, List.map_cons, List.map_nil]; rw [hst.out.2]))
              have hQ4 : Hid (QAt w w2 s (w.heap.size + 1) (pos + (enc x).length) v2 (T ++ [92, 85] ++ (hexB x).take 5)) := by
                show QAt _ _ _ _ _ _ _
                rw [hst.out.1, ← List.append_assoc, hTT.out]; exact hQ3.out
              clear hown' hgrow
              go_wp2_with fail
              go_roundg (20 - 5)
              case measure => omega
              case rel => exact ⟨v2, 5, rfl, rfl, by omega, by go_num, hQ4.out⟩
          · obtain ⟨d, hd⟩ : ∃ d, d = x / 256 % 16 := ⟨_, rfl⟩
            have hb : bits BinOp.and IntKind.i32 ((x : Int) / 256) 15 = (d : Int) := by
              rw [hd]; exact and15d x 256 hx31.out
            have hd16 : d < 16 := by omega
            have hd0 : (0 : Int) ≤ (d : Int) := by omega
            have hd1 : (d : Int) < 16 := by omega
            have hat := hexAt d hd16
            have hst : Hid ((hexB x).take 6 = (hexB x).take 5 ++ [(hexC d).toUInt8] ∧ (hexC d).toUInt8.toNat = hexC d) := by
              refine ⟨?_, hexC_val d hd16⟩
              rw [hd]; rfl
            have hlen : Hid ((T ++ [92, 85] ++ (hexB x).take 5).length ≤ 611) := by
              have h1 := hTL.out
              have h2 := hexB_len x
              show _ ≤ _
              simp only [List.length_append, List.length_take, List.length_cons, List.length_nil]; omega
            clear hd
            generalize hTT : T ++ [92, 85] ++ (hexB x).take 5 = TT at *
            have hTT := Lib.hid hTT
            go_wp2_with (at_builtin; refine wpList_append_own _ rfl (.tmp 50) (.tmp 56) 41 rfl w.heap.size 5 i0 _ 1 1 Tryd.underlying41 HI.out HZ.out.1 HZ.out.2.1 HZ.out.2.2 rfl (by decide) _ _ _ rfl (hQ.out.own.alloc _) ⟨wr.heap.size, 0, none⟩ 1 1 [.int .u8 ((hexC d : Nat) : Int)] rfl rfl ?c1z8 ?c2z8 ?c3z8 ?c4z8 ?c5z8 ?nextz8)
            any_goals (first | exact new_cells _ _ | skip)
            case c2z8 => simp [Value.oneCell']
            case c3z8 => have := hlen.out; unfold maxLen; omega
            case c4z8 => have := hlen.out; omega
            case c5z8 => have := hQ.out.size; simp; omega
            case nextz8 =>
              intro v2 w2 hown' hgrow _
              have hQ3 := Lib.hid (hQ.out.append0 (news := [(hexC d).toUInt8]) hown' hgrow (by simp) (by simp only [bytesV, List.map_cons, List.map_nil]; rw [hst.out.2]))
              have hQ4 : Hid (QAt w w2 s (w.heap.size + 1) (pos + (enc x).length) v2 (T ++ [92, 85] ++ (hexB x).take 6)) := by
                show QAt _ _ _ _ _ _ _
                rw [hst.out.1, ← List.append_assoc, hTT.out]; exact hQ3.out
              clear hown' hgrow
              go_wp2_with fail
              go_roundg (20 - 6)
              case measure => omega
              case rel => exact ⟨v2, 6, rfl, rfl, by omega, by go_num, hQ4.out⟩
          · obtain ⟨d, hd⟩ : ∃ d, d = x / 16 % 16 := ⟨_, rfl⟩
            have hb : bits BinOp.and IntKind.i32 ((x : Int) / 16) 15 = (d : Int) := by
              rw [hd]; exact and15d x 16 hx31.out
            have hd16 : d < 16 := by omega
            have hd0 : (0 : Int) ≤ (d : Int) := by omega
            have hd1 : (d : Int) < 16 := by omega
            have hat := hexAt d hd16
            have hst : Hid ((hexB x).take 7 = (hexB x).take 6 ++ [(hexC d).toUInt8] ∧ (hexC d).toUInt8.toNat = hexC d) := by
              refine ⟨?_, hexC_val d hd16⟩
              rw [hd]; rfl
            have hlen : Hid ((T ++ [92, 85] ++ (hexB x).take 6).length ≤ 611) := by
              have h1 := hTL.out
              have h2 := hexB_len x
              show _ ≤ _
              simp only [List.length_append, List.length_take, List.length_cons, List.length_nil]; omega
            clear hd
            generalize hTT : T ++ [92, 85] ++ (hexB x).take 6 = TT at *
            have hTT := Lib.hid hTT
            go_wp2_with (at_builtin; refine wpList_append_own _ rfl (.tmp 50) (.tmp 56) 41 rfl w.heap.size 5 i0 _ 1 1 Tryd.underlying41 HI.out HZ.out.1 HZ.out.2.1 HZ.out.2.2 rfl (by decide) _ _ _ rfl (hQ.out.own.alloc _) ⟨wr.heap.size, 0, none⟩ 1 1 [.int .u8 ((hexC d : Nat) : Int)] rfl rfl ?c1z9 ?c2z9 ?c3z9 ?c4z9 ?c5z9 ?nextz9)
            any_goals (first | exact new_cells _ _ | skip)
            case c2z9 => simp [Value.oneCell']
            case c3z9 => have := hlen.out; unfold maxLen; omega
            case c4z9 => have := hlen.out; omega
            case c5z9 => have := hQ.out.size; simp; omega
            case nextz9 =>
              intro v2 w2 hown' hgrow _
              have hQ3 := Lib.hid (hQ.out.append0 (news := [(hexC d).toUInt8]) hown' hgrow (by simp) (by simp only [bytesV, List.map_cons, List.map_nil]; rw [hst.out.2]))
              have hQ4 : Hid (QAt w w2 s (w.heap.size + 1) (pos + (enc x).length) v2 (T ++ [92, 85] ++ (hexB x).take 7)) := by
                show QAt _ _ _ _ _ _ _
                rw [hst.out.1, ← List.append_assoc, hTT.out]; exact hQ3.out
              clear hown' hgrow
              go_wp2_with fail
              go_roundg (20 - 7)
              case measure => omega
              case rel => exact ⟨v2, 7, rfl, rfl, by omega, by go_num, hQ4.out⟩
          · obtain ⟨d, hd⟩ : ∃ d, d = x % 16 := ⟨_, rfl⟩
            have hb : bits BinOp.and IntKind.i32 ((x : Int)) 15 = (d : Int) := by
              rw [hd]; exact and15 x hx31.out
            have hd16 : d < 16 := by omega
            have hd0 : (0 : Int) ≤ (d : Int) := by omega
            have hd1 : (d : Int) < 16 := by omega
            have hat := hexAt d hd16
            have hst : Hid ((hexB x).take 8 = (hexB x).take 7 ++ [(hexC d).toUInt8] ∧ (hexC d).toUInt8.toNat = hexC d) := by
              refine ⟨?_, hexC_val d hd16⟩
              rw [hd]; rfl
            have hlen : Hid ((T ++ [92, 85] ++ (hexB x).take 7).length ≤ 611) := by
              have h1 := hTL.out
              have h2 := hexB_len x
              show _ ≤ _
              simp only [List.length_append, List.length_take, List.length_cons, List.length_nil]; omega
            clear hd
            generalize hTT : T ++ [92, 85] ++ (hexB x).take 7 = TT at *
            have hTT := Lib.hid hTT
            go_wp2_with (at_builtin; refine wpList_append_own _ rfl (.tmp 50) (.tmp 56) 41 rfl w.heap.size 5 i0 _ 1 1 Tryd.underlying41 HI.out HZ.out.1 HZ.out.2.1 HZ.out.2.2 rfl (by decide) _ _ _ rfl (hQ.out.own.alloc _) ⟨wr.heap.size, 0, none⟩ 1 1 [.int .u8 ((hexC d : Nat) : Int)] rfl rfl ?c1z10 ?c2z10 ?c3z10 ?c4z10 ?c5z10 ?nextz10)
            any_goals (first | exact new_cells _ _ | skip)
            case c2z10 => simp [Value.oneCell']
            case c3z10 => have := hlen.out; unfold maxLen; omega
            case c4z10 => have := hlen.out; omega
            case c5z10 => have := hQ.out.size; simp; omega
            case nextz10 =>
              intro v2 w2 hown' hgrow _
              have hQ3 := Lib.hid (hQ.out.append0 (news := [(hexC d).toUInt8]) hown' hgrow (by simp) (by simp only [bytesV, List.map_cons, List.map_nil]; rw [hst.out.2]))
              have hQ4 : Hid (QAt w w2 s (w.heap.size + 1) (pos + (enc x).length) v2 (T ++ [92, 85] ++ (hexB x).take 8)) := by
                show QAt _ _ _ _ _ _ _
                rw [hst.out.1, ← List.append_assoc, hTT.out]; exact hQ3.out
              clear hown' hgrow
              go_wp2_with fail
              go_roundg (20 - 8)
              case measure => omega
              case rel => exact ⟨v2, 8, rfl, rfl, by omega, by go_num, hQ4.out⟩
          · have h2 := hQ.out
            rw [List.take_of_length_le (by rw [hexB_len]; omega), List.append_assoc, ← hexB_unit] at h2
            have hQ5 := Lib.hid h2
            clear h2
            go_wp2_with fail
            go_roundg (rest.length + 5)
            case measure => simp
            case rel => exact ⟨_, rs ++ [x], rest, _, _, rfl, rfl, hnx2.out, hQ5.out, quo_snoc hT.out (92 :: 85 :: hex8 x) _ (by simp [unitQ]) rfl (by rw [hexB_unit]; simp [hexB_len])⟩
end Go.Proofs.YtnehkpoggkfikaaDoor
