/-
  The walk through the statements' own Quoted: what must be escaped escaped. Conditions: the law's own. (Printed by genquo.py.)
-/
import Derived.Test.YtnehkpoggkfikaaDoorQuoL
namespace Go.Proofs.YtnehkpoggkfikaaDoor
open Go.RowKit
set_option linter.unusedVariables false

set_option maxRecDepth 100000 in
set_option maxHeartbeats 8000000 in
theorem quoted_plain (s : ByteArray) (q : Nat) (all : List Nat) (w : World) (hq : q = 34 ∨ q = 39) (hs : s.data.toList = encs all) (ho : okAll all) (h60 : s.size ≤ 60) :
    Calls Tryd.prog 27 #[.string s, .int .u8 (q : Int), .bool false] w fun e w' => e = .returned (.string ⟨(encs (q :: (unitsQ q false all ++ [q]))).toArray⟩) ∧ Below w.heap.size w w' := by
  obtain ⟨i0, hi, hz0, hz1, hz2⟩ := info_parts info5
  have HI := Lib.hid hi
  have HZ := Lib.hid (And.intro hz0 (And.intro hz1 hz2))
  have HS := Lib.hid (runAt_start hs ho)
  have HQ := Lib.hid hq
  have H0 := Lib.hid (qAt_start w s q.toUInt8)
  rw [q_val hq] at H0
  have Hq : Hid (encs [q] = [q.toUInt8]) := by show _ = _; rcases hq with rfl | rfl <;> decide +kernel
  have hq8 : IntKind.u8.wrap (q : Int) = (q : Int) := IntWalk.u8_in _ (by omega)
  have hqb : (q : Int) < 128 := by omega
  clear hi hz0 hz1 hz2 hs ho hq
  go_enter Tryd.func27, Tryd.ntmps27
  go_wp2_with fail
  go_loopg [7] (all.length + 5) (fun g v wr => ∃ (v0 : Value) (rs rest : List Nat) (pos : Nat) (T : List UInt8), v = v0 ∧ g = rest.length + 5 ∧ Hid (RunAt s all rs rest pos) ∧ Hid (QAt w wr s (w.heap.size + 1) pos v0 T) ∧ Hid (T = encs (q :: unitsQ q false rs) ∧ T.length ≤ 10 * rs.length + 1))
  case atStart => exact ⟨_, [], all, 0, [q.toUInt8], rfl, rfl, HS.out, H0.out, Hq.out.symm, by simp⟩
  case round =>
    obtain ⟨v, rs, rest, pos, T, rfl, rfl, hR, hQ0, hT⟩ := hrel
    have hTL : Hid (T.length ≤ 601) := by
      have h1 := run_small hR.out h60
      have h2 := hT.out.2
      show T.length ≤ 601
      omega
    cases rest with
    | nil =>
      have hE := Lib.hid (runAt_end hR.out)
      have hnx : ∀ ty, (Instr.next (.pointer (some ⟨w.heap.size + 1, 0, none⟩)) true ty).run Tryd.prog wr = _ := fun ty => Lib.run_next_end_at wr (w.heap.size + 1) s pos ty hQ0.out.it hE.out.1
      have hQ := hQ0
      go_wp2_with (at_builtin; refine wpList_append_own _ rfl (.tmp 90) (.tmp 92) 41 rfl w.heap.size 5 i0 _ 1 1 Tryd.underlying41 HI.out HZ.out.1 HZ.out.2.1 HZ.out.2.2 rfl (by decide) _ _ _ rfl (hQ.out.own.alloc _) ⟨wr.heap.size, 0, none⟩ 1 1 [.int .u8 (q : Int)] rfl rfl ?c1z11 ?c2z11 ?c3z11 ?c4z11 ?c5z11 ?nextz11)
      any_goals (first | exact new_cells _ _ | skip)
      case c2z11 => simp [Value.oneCell']
      case c3z11 => have := hTL.out; unfold maxLen; omega
      case c4z11 => have := hTL.out; omega
      case c5z11 => have := hQ.out.size; simp; omega
      case nextz11 =>
        intro v' w' hown' hgrow _
        have hQ2 := Lib.hid (hQ.out.append0 (news := [q.toUInt8]) hown' hgrow (by simp) (by simp only [bytesV, List.map_cons, List.map_nil]; rw [q_val HQ.out]))
        obtain ⟨g, cap, rfl, hcv⟩ := bytes_cells (T ++ [q.toUInt8]) hown' (by simp only [bytesV, List.map_append, List.map_cons, List.map_nil]; rw [q_val HQ.out]) (by simp) (by omega)
        have hfin : Hid (T ++ [q.toUInt8] = encs (q :: (unitsQ q false all ++ [q]))) := by
          have e := hT.out.1
          have e2 := hE.out.2
          show _ = _
          rw [← e2, e]
          have := Hq.out
          simp only [encs, List.append_nil] at this
          simp only [encs, encs_append, this, List.append_assoc, List.append_nil]
        clear hown' hgrow
        go_wp2_with fail
        go_ret
        rw [hfin.out]
        exact ⟨rfl, hQ2.out.below⟩
    | cons x rest =>
      obtain ⟨hp, hdec, hokx, hr2⟩ := runAt_next hR.out
      have hnx2 := Lib.hid hr2
      have hnx : ∀ ty, (Instr.next (.pointer (some ⟨w.heap.size + 1, 0, none⟩)) true ty).run Tryd.prog wr = _ := fun ty => Lib.run_next_any_at wr (w.heap.size + 1) s pos ty hQ0.out.it hp
      rw [hdec] at hnx
      simp only at hnx
      have hQn := hQ0.out.next (pos + (enc x).length)
      obtain ⟨wi, hwi⟩ : ∃ wi, wi = wr.iterAt (w.heap.size + 1) s (pos + (enc x).length) := ⟨_, rfl⟩
      rw [← hwi] at hnx hQn
      have hQ := Lib.hid hQn
      clear hQn hwi
      have hok := Lib.hid hokx
      clear hp hdec hr2 hokx
      by_cases h127 : x = 127
      · have t127 : ((x : Int) == 127) = true := by simp; omega
        have hU := Lib.hid h127
        clear h127
        go_wp2_with (at_builtin; refine wpList_append_own _ rfl (.tmp 43) (.tmp 44) 41 rfl w.heap.size 5 i0 _ 1 1 Tryd.underlying41 HI.out HZ.out.1 HZ.out.2.1 HZ.out.2.2 rfl (by decide) _ _ _ rfl (hQ.out.own.alloc _) ⟨wi.heap.size, 0, none⟩ 2 2 [.int .u8 92, .int .u8 85] rfl rfl ?c1z12 ?c2z12 ?c3z12 ?c4z12 ?c5z12 ?nextz12)
        any_goals (first | exact new_cells _ _ | skip)
        case c2z12 => simp [Value.oneCell']
        case c3z12 => have := hTL.out; unfold maxLen; omega
        case c4z12 => have := hTL.out; omega
        case c5z12 => have := hQ.out.size; simp; omega
        case nextz12 =>
          intro v' w' hown' hgrow _
          have hQ2 := Lib.hid (hQ.out.append0 (news := [92, 85]) hown' hgrow (by simp) rfl)
          have hx31 : Hid (x < 2147483648) := by have := hok.out; unfold okR at this; show x < 2147483648; omega
          clear hown' hgrow hnx
          go_wp2_with fail
          go_loopg [7, 10] 20 (fun g v kk wj => ∃ (v1 : Value) (j : Nat), v = v1 ∧ g = 20 - j ∧ j ≤ 8 ∧ kk = .int .i64 (28 - 4 * (j : Int)) ∧ Hid (QAt w wj s (w.heap.size + 1) (pos + (enc x).length) v1 (T ++ [92, 85] ++ (hexB x).take j)))
          case atStart => exact ⟨_, 0, rfl, rfl, by omega, rfl, Lib.hid (by simpa using hQ2.out)⟩
          case round =>
            obtain ⟨v1, j, rfl, rfl, hj, rfl, hQ⟩ := hrel
            obtain rfl | rfl | rfl | rfl | rfl | rfl | rfl | rfl | rfl : j = 0 ∨ j = 1 ∨ j = 2 ∨ j = 3 ∨ j = 4 ∨ j = 5 ∨ j = 6 ∨ j = 7 ∨ j = 8 := by omega
            · obtain ⟨d, hd⟩ : ∃ d, d = x / 268435456 % 16 := ⟨_, rfl⟩
              have hb : bits BinOp.and IntKind.i32 ((x : Int) / 268435456) 15 = (d : Int) := by
                rw [hd]; exact and15d x 268435456 hx31.out
              have hd16 : d < 16 := by omega
              have hd0 : (0 : Int) ≤ (d : Int) := by omega
              have hd1 : (d : Int) < 16 := by omega
              have hat := hexAt d hd16
              have hst : Hid ((hexB x).take 1 = (hexB x).take 0 ++ [(hexC d).toUInt8] ∧ (hexC d).toUInt8.toNat = hexC d) := by
                refine ⟨?_, hexC_val d hd16⟩
                rw [hd]; rfl
              have hlen : Hid ((T ++ [92, 85] ++ (hexB x).take 0).length ≤ 611) := by
                have h1 := hTL.out
                have h2 := hexB_len x
                show _ ≤ _
                simp only [List.length_append, List.length_take, List.length_cons, List.length_nil]; omega
              clear hd
              generalize hTT : T ++ [92, 85] ++ (hexB x).take 0 = TT at *
              have hTT := Lib.hid hTT
              go_wp2_with (at_builtin; refine wpList_append_own _ rfl (.tmp 50) (.tmp 56) 41 rfl w.heap.size 5 i0 _ 1 1 Tryd.underlying41 HI.out HZ.out.1 HZ.out.2.1 HZ.out.2.2 rfl (by decide) _ _ _ rfl (hQ.out.own.alloc _) ⟨wr.heap.size, 0, none⟩ 1 1 [.int .u8 ((hexC d : Nat) : Int)] rfl rfl ?c1z13 ?c2z13 ?c3z13 ?c4z13 ?c5z13 ?nextz13)
              any_goals (first | exact new_cells _ _ | skip)
              case c2z13 => simp [Value.oneCell']
              case c3z13 => have := hlen.out; unfold maxLen; omega
              case c4z13 => have := hlen.out; omega
              case c5z13 => have := hQ.out.size; simp; omega
              case nextz13 =>
                intro v2 w2 hown' hgrow _
                have hQ3 := Lib.hid (hQ.out.append0 (news := [(hexC d).toUInt8]) hown' hgrow (by simp) (by simp only [bytesV, List.map_cons, List.map_nil]; rw [hst.out.2]))
                have hQ4 : Hid (QAt w w2 s (w.heap.size + 1) (pos + (enc x).length) v2 (T ++ [92, 85] ++ (hexB x).take 1)) := by
                  show QAt _ _ _ _ _ _ _
                  rw [hst.out.1, ← List.append_assoc, hTT.out]; exact hQ3.out
                clear hown' hgrow
                go_wp2_with fail
                go_roundg (20 - 1)
                case measure => omega
                case rel => exact ⟨v2, 1, rfl, rfl, by omega, by go_num, hQ4.out⟩
            · obtain ⟨d, hd⟩ : ∃ d, d = x / 16777216 % 16 := ⟨_, rfl⟩
              have hb : bits BinOp.and IntKind.i32 ((x : Int) / 16777216) 15 = (d : Int) := by
                rw [hd]; exact and15d x 16777216 hx31.out
              have hd16 : d < 16 := by omega
              have hd0 : (0 : Int) ≤ (d : Int) := by omega
              have hd1 : (d : Int) < 16 := by omega
              have hat := hexAt d hd16
              have hst : Hid ((hexB x).take 2 = (hexB x).take 1 ++ [(hexC d).toUInt8] ∧ (hexC d).toUInt8.toNat = hexC d) := by
                refine ⟨?_, hexC_val d hd16⟩
                rw [hd]; rfl
              have hlen : Hid ((T ++ [92, 85] ++ (hexB x).take 1).length ≤ 611) := by
                have h1 := hTL.out
                have h2 := hexB_len x
                show _ ≤ _
                simp only [List.length_append, List.length_take, List.length_cons, List.length_nil]; omega
              clear hd
              generalize hTT : T ++ [92, 85] ++ (hexB x).take 1 = TT at *
              have hTT := Lib.hid hTT
              go_wp2_with (at_builtin; refine wpList_append_own _ rfl (.tmp 50) (.tmp 56) 41 rfl w.heap.size 5 i0 _ 1 1 Tryd.underlying41 HI.out HZ.out.1 HZ.out.2.1 HZ.out.2.2 rfl (by decide) _ _ _ rfl (hQ.out.own.alloc _) ⟨wr.heap.size, 0, none⟩ 1 1 [.int .u8 ((hexC d : Nat) : Int)] rfl rfl ?c1z14 ?c2z14 ?c3z14 ?c4z14 ?c5z14 ?nextz14)
              any_goals (first | exact new_cells _ _ | skip)
              case c2z14 => simp [Value.oneCell']
              case c3z14 => have := hlen.out; unfold maxLen; omega
              case c4z14 => have := hlen.out; omega
              case c5z14 => have := hQ.out.size; simp; omega
              case nextz14 =>
                intro v2 w2 hown' hgrow _
                have hQ3 := Lib.hid (hQ.out.append0 (news := [(hexC d).toUInt8]) hown' hgrow (by simp) (by simp only [bytesV, List.map_cons, List.map_nil]; rw [hst.out.2]))
                have hQ4 : Hid (QAt w w2 s (w.heap.size + 1) (pos + (enc x).length) v2 (T ++ [92, 85] ++ (hexB x).take 2)) := by
                  show QAt _ _ _ _ _ _ _
                  rw [hst.out.1, ← List.append_assoc, hTT.out]; exact hQ3.out
                clear hown' hgrow
                go_wp2_with fail
                go_roundg (20 - 2)
                case measure => omega
                case rel => exact ⟨v2, 2, rfl, rfl, by omega, by go_num, hQ4.out⟩
            · obtain ⟨d, hd⟩ : ∃ d, d = x / 1048576 % 16 := ⟨_, rfl⟩
              have hb : bits BinOp.and IntKind.i32 ((x : Int) / 1048576) 15 = (d : Int) := by
                rw [hd]; exact and15d x 1048576 hx31.out
              have hd16 : d < 16 := by omega
              have hd0 : (0 : Int) ≤ (d : Int) := by omega
              have hd1 : (d : Int) < 16 := by omega
              have hat := hexAt d hd16
              have hst : Hid ((hexB x).take 3 = (hexB x).take 2 ++ [(hexC d).toUInt8] ∧ (hexC d).toUInt8.toNat = hexC d) := by
                refine ⟨?_, hexC_val d hd16⟩
                rw [hd]; rfl
              have hlen : Hid ((T ++ [92, 85] ++ (hexB x).take 2).length ≤ 611) := by
                have h1 := hTL.out
                have h2 := hexB_len x
                show _ ≤ _
                simp only [List.length_append, List.length_take, List.length_cons, List.length_nil]; omega
              clear hd
              generalize hTT : T ++ [92, 85] ++ (hexB x).take 2 = TT at *
              have hTT := Lib.hid hTT
              go_wp2_with (at_builtin; refine wpList_append_own _ rfl (.tmp 50) (.tmp 56) 41 rfl w.heap.size 5 i0 _ 1 1 Tryd.underlying41 HI.out HZ.out.1 HZ.out.2.1 HZ.out.2.2 rfl (by decide) _ _ _ rfl (hQ.out.own.alloc _) ⟨wr.heap.size, 0, none⟩ 1 1 [.int .u8 ((hexC d : Nat) : Int)] rfl rfl ?c1z15 ?c2z15 ?c3z15 ?c4z15 ?c5z15 ?nextz15)
              any_goals (first | exact new_cells _ _ | skip)
              case c2z15 => simp [Value.oneCell']
              case c3z15 => have := hlen.out; unfold maxLen; omega
              case c4z15 => have := hlen.out; omega
              case c5z15 => have := hQ.out.size; simp; omega
              case nextz15 =>
                intro v2 w2 hown' hgrow _
                have hQ3 := Lib.hid (hQ.out.append0 (news := [(hexC d).toUInt8]) hown' hgrow (by simp) (by simp only [bytesV, List.map_cons, List.map_nil]; rw [hst.out.2]))
                have hQ4 : Hid (QAt w w2 s (w.heap.size + 1) (pos + (enc x).length) v2 (T ++ [92, 85] ++ (hexB x).take 3)) := by
                  show QAt _ _ _ _ _ _ _
                  rw [hst.out.1, ← List.append_assoc, hTT.out]; exact hQ3.out
                clear hown' hgrow
                go_wp2_with fail
                go_roundg (20 - 3)
                case measure => omega
                case rel => exact ⟨v2, 3, rfl, rfl, by omega, by go_num, hQ4.out⟩
            · obtain ⟨d, hd⟩ : ∃ d, d = x / 65536 % 16 := ⟨_, rfl⟩
              have hb : bits BinOp.and IntKind.i32 ((x : Int) / 65536) 15 = (d : Int) := by
                rw [hd]; exact and15d x 65536 hx31.out
              have hd16 : d < 16 := by omega
              have hd0 : (0 : Int) ≤ (d : Int) := by omega
              have hd1 : (d : Int) < 16 := by omega
              have hat := hexAt d hd16
              have hst : Hid ((hexB x).take 4 = (hexB x).take 3 ++ [(hexC d).toUInt8] ∧ (hexC d).toUInt8.toNat = hexC d) := by
                refine ⟨?_, hexC_val d hd16⟩
                rw [hd]; rfl
              have hlen : Hid ((T ++ [92, 85] ++ (hexB x).take 3).length ≤ 611) := by
                have h1 := hTL.out
                have h2 := hexB_len x
                show _ ≤ _
                simp only [List.length_append, List.length_take, List.length_cons, List.length_nil]; omega
              clear hd
              generalize hTT : T ++ [92, 85] ++ (hexB x).take 3 = TT at *
              have hTT := Lib.hid hTT
              go_wp2_with (at_builtin; refine wpList_append_own _ rfl (.tmp 50) (.tmp 56) 41 rfl w.heap.size 5 i0 _ 1 1 Tryd.underlying41 HI.out HZ.out.1 HZ.out.2.1 HZ.out.2.2 rfl (by decide) _ _ _ rfl (hQ.out.own.alloc _) ⟨wr.heap.size, 0, none⟩ 1 1 [.int .u8 ((hexC d : Nat) : Int)] rfl rfl ?c1z16 ?c2z16 ?c3z16 ?c4z16 ?c5z16 ?nextz16)
              any_goals (first | exact new_cells _ _ | skip)
              case c2z16 => simp [Value.oneCell']
              case c3z16 => have := hlen.out; unfold maxLen; omega
              case c4z16 => have := hlen.out; omega
              case c5z16 => have := hQ.out.size; simp; omega
              case nextz16 =>
                intro v2 w2 hown' hgrow _
                have hQ3 := Lib.hid (hQ.out.append0 (news := [(hexC d).toUInt8]) hown' hgrow (by simp) (by simp only [bytesV, List.map_cons, List.map_nil]; rw [hst.out.2]))
                have hQ4 : Hid (QAt w w2 s (w.heap.size + 1) (pos + (enc x).length) v2 (T ++ [92, 85] ++ (hexB x).take 4)) := by
                  show QAt _ _ _ _ _ _ _
                  rw [hst.out.1, ← List.append_assoc, hTT.out]; exact hQ3.out
                clear hown' hgrow
                go_wp2_with fail
                go_roundg (20 - 4)
                case measure => omega
                case rel => exact ⟨v2, 4, rfl, rfl, by omega, by go_num, hQ4.out⟩
            · obtain ⟨d, hd⟩ : ∃ d, d = x / 4096 % 16 := ⟨_, rfl⟩
              have hb : bits BinOp.and IntKind.i32 ((x : Int) / 4096) 15 = (d : Int) := by
                rw [hd]; exact and15d x 4096 hx31.out
              have hd16 : d < 16 := by omega
              have hd0 : (0 : Int) ≤ (d : Int) := by omega
              have hd1 : (d : Int) < 16 := by omega
              have hat := hexAt d hd16
              have hst : Hid ((hexB x).take 5 = (hexB x).take 4 ++ [(hexC d).toUInt8] ∧ (hexC d).toUInt8.toNat = hexC d) := by
                refine ⟨?_, hexC_val d hd16⟩
                rw [hd]; rfl
              have hlen : Hid ((T ++ [92, 85] ++ (hexB x).take 4).length ≤ 611) := by
                have h1 := hTL.out
                have h2 := hexB_len x
                show _ ≤ _
                simp only [List.length_append, List.length_take, List.length_cons, List.length_nil]; omega
              clear hd
              generalize hTT : T ++ [92, 85] ++ (hexB x).take 4 = TT at *
              have hTT := Lib.hid hTT
              go_wp2_with (at_builtin; refine wpList_append_own _ rfl (.tmp 50) (.tmp 56) 41 rfl w.heap.size 5 i0 _ 1 1 Tryd.underlying41 HI.out HZ.out.1 HZ.out.2.1 HZ.out.2.2 rfl (by decide) _ _ _ rfl (hQ.out.own.alloc _) ⟨wr.heap.size, 0, none⟩ 1 1 [.int .u8 ((hexC d : Nat) : Int)] rfl rfl ?c1z17 ?c2z17 ?c3z17 ?c4z17 ?c5z17 ?nextz17)
              any_goals (first | exact new_cells _ _ | skip)
              case c2z17 => simp [Value.oneCell']
              case c3z17 => have := hlen.out; unfold maxLen; omega
              case c4z17 => have := hlen.out; omega
              case c5z17 => have := hQ.out.size; simp; omega
              case nextz17 =>
                intro v2 w2 hown' hgrow _
                have hQ3 := Lib.hid (hQ.out.append0 (news := [(hexC d).toUInt8]) hown' hgrow (by simp) (by simp only [bytesV, List.map_cons, List.map_nil]; rw [hst.out.2]))
                have hQ4 : Hid (QAt w w2 s (w.heap.size + 1) (pos + (enc x).length) v2 (T ++ [92, 85] ++ (hexB x).take 5)) := by
                  show QAt _ _ _ _ _ _ _
                  rw [hst.out.1, ← List.append_assoc, hTT.out]; exact hQ3.out
                clear hown' hgrow
                go_wp2_with fail
                go_roundg (20 - 5)
                case measure => omega
                case rel => exact ⟨v2, 5, rfl, rfl, by omega, by go_num, hQ4.out⟩
            · obtain ⟨d, hd⟩ : ∃ d, d = x / 256 % 16 := ⟨_, rfl⟩
              have hb : bits BinOp.and IntKind.i32 ((x : Int) / 256) 15 = (d : Int) := by
                rw [hd]; exact and15d x 256 hx31.out
              have hd16 : d < 16 := by omega
              have hd0 : (0 : Int) ≤ (d : Int) := by omega
              have hd1 : (d : Int) < 16 := by omega
              have hat := hexAt d hd16
              have hst : Hid ((hexB x).take 6 = (hexB x).take 5 ++ [(hexC d).toUInt8] ∧ (hexC d).toUInt8.toNat = hexC d) := by
                refine ⟨?_, hexC_val d hd16⟩
                rw [hd]; rfl
              have hlen : Hid ((T ++ [92, 85] ++ (hexB x).take 5).length ≤ 611) := by
                have h1 := hTL.out
                have h2 := hexB_len x
                show _ ≤ _
                simp only [List.length_append, List.length_take, List.length_cons, List.length_nil]; omega
              clear hd
              generalize hTT : T ++ [92, 85] ++ (hexB x).take 5 = TT at *
              have hTT := Lib.hid hTT
              go_wp2_with (at_builtin; refine wpList_append_own _ rfl (.tmp 50) (.tmp 56) 41 rfl w.heap.size 5 i0 _ 1 1 Tryd.underlying41 HI.out HZ.out.1 HZ.out.2.1 HZ.out.2.2 rfl (by decide) _ _ _ rfl (hQ.out.own.alloc _) ⟨wr.heap.size, 0, none⟩ 1 1 [.int .u8 ((hexC d : Nat) : Int)] rfl rfl ?c1z18 ?c2z18 ?c3z18 ?c4z18 ?c5z18 ?nextz18)
              any_goals (first | exact new_cells _ _ | skip)
              case c2z18 => simp [Value.oneCell']
              case c3z18 => have := hlen.out; unfold maxLen; omega
              case c4z18 => have := hlen.out; omega
              case c5z18 => have := hQ.out.size; simp; omega
              case nextz18 =>
                intro v2 w2 hown' hgrow _
                have hQ3 := Lib.hid (hQ.out.append0 (news := [(hexC d).toUInt8]) hown' hgrow (by simp) (by simp only [bytesV, List.map_cons, List.map_nil]; rw [hst.out.2]))
                have hQ4 : Hid (QAt w w2 s (w.heap.size + 1) (pos + (enc x).length) v2 (T ++ [92, 85] ++ (hexB x).take 6)) := by
                  show QAt _ _ _ _ _ _ _
                  rw [hst.out.1, ← List.append_assoc, hTT.out]; exact hQ3.out
                clear hown' hgrow
                go_wp2_with fail
                go_roundg (20 - 6)
                case measure => omega
                case rel => exact ⟨v2, 6, rfl, rfl, by omega, by go_num, hQ4.out⟩
            · obtain ⟨d, hd⟩ : ∃ d, d = x / 16 % 16 := ⟨_, rfl⟩
              have hb : bits BinOp.and IntKind.i32 ((x : Int) / 16) 15 = (d : Int) := by
                rw [hd]; exact and15d x 16 hx31.out
              have hd16 : d < 16 := by omega
              have hd0 : (0 : Int) ≤ (d : Int) := by omega
              have hd1 : (d : Int) < 16 := by omega
              have hat := hexAt d hd16
              have hst : Hid ((hexB x).take 7 = (hexB x).take 6 ++ [(hexC d).toUInt8] ∧ (hexC d).toUInt8.toNat = hexC d) := by
                refine ⟨?_, hexC_val d hd16⟩
                rw [hd]; rfl
              have hlen : Hid ((T ++ [92, 85] ++ (hexB x).take 6).length ≤ 611) := by
                have h1 := hTL.out
                have h2 := hexB_len x
                show _ ≤ _
                simp only [List.length_append, List.length_take, List.length_cons, List.length_nil]; omega
              clear hd
              generalize hTT : T ++ [92, 85] ++ (hexB x).take 6 = TT at *
              have hTT := Lib.hid hTT
              go_wp2_with (at_builtin; refine wpList_append_own _ rfl (.tmp 50) (.tmp 56) 41 rfl w.heap.size 5 i0 _ 1 1 Tryd.underlying41 HI.out HZ.out.1 HZ.out.2.1 HZ.out.2.2 rfl (by decide) _ _ _ rfl (hQ.out.own.alloc _) ⟨wr.heap.size, 0, none⟩ 1 1 [.int .u8 ((hexC d : Nat) : Int)] rfl rfl ?c1z19 ?c2z19 ?c3z19 ?c4z19 ?c5z19 ?nextz19)
              any_goals (first | exact new_cells _ _ | skip)
              case c2z19 => simp [Value.oneCell']
              case c3z19 => have := hlen.out; unfold maxLen; omega
              case c4z19 => have := hlen.out; omega
              case c5z19 => have := hQ.out.size; simp; omega
              case nextz19 =>
                intro v2 w2 hown' hgrow _
                have hQ3 := Lib.hid (hQ.out.append0 (news := [(hexC d).toUInt8]) hown' hgrow (by simp) (by simp only [bytesV, List.map_cons, List.map_nil]; rw [hst.out.2]))
                have hQ4 : Hid (QAt w w2 s (w.heap.size + 1) (pos + (enc x).length) v2 (T ++ [92, 85] ++ (hexB x).take 7)) := by
                  show QAt _ _ _ _ _ _ _
                  rw [hst.out.1, ← List.append_assoc, hTT.out]; exact hQ3.out
                clear hown' hgrow
                go_wp2_with fail
                go_roundg (20 - 7)
                case measure => omega
                case rel => exact ⟨v2, 7, rfl, rfl, by omega, by go_num, hQ4.out⟩
            · obtain ⟨d, hd⟩ : ∃ d, d = x % 16 := ⟨_, rfl⟩
              have hb : bits BinOp.and IntKind.i32 ((x : Int)) 15 = (d : Int) := by
                rw [hd]; exact and15 x hx31.out
              have hd16 : d < 16 := by omega
              have hd0 : (0 : Int) ≤ (d : Int) := by omega
              have hd1 : (d : Int) < 16 := by omega
              have hat := hexAt d hd16
              have hst : Hid ((hexB x).take 8 = (hexB x).take 7 ++ [(hexC d).toUInt8] ∧ (hexC d).toUInt8.toNat = hexC d) := by
                refine ⟨?_, hexC_val d hd16⟩
                rw [hd]; rfl
              have hlen : Hid ((T ++ [92, 85] ++ (hexB x).take 7).length ≤ 611) := by
                have h1 := hTL.out
                have h2 := hexB_len x
                show _ ≤ _
                simp only [List.length_append, List.length_take, List.length_cons, List.length_nil]; omega
              clear hd
              generalize hTT : T ++ [92, 85] ++ (hexB x).take 7 = TT at *
              have hTT := Lib.hid hTT
              go_wp2_with (at_builtin; refine wpList_append_own _ rfl (.tmp 50) (.tmp 56) 41 rfl w.heap.size 5 i0 _ 1 1 Tryd.underlying41 HI.out HZ.out.1 HZ.out.2.1 HZ.out.2.2 rfl (by decide) _ _ _ rfl (hQ.out.own.alloc _) ⟨wr.heap.size, 0, none⟩ 1 1 [.int .u8 ((hexC d : Nat) : Int)] rfl rfl ?c1z20 ?c2z20 ?c3z20 ?c4z20 ?c5z20 ?nextz20)
              any_goals (first | exact new_cells _ _ | skip)
              case c2z20 => simp [Value.oneCell']
              case c3z20 => have := hlen.out; unfold maxLen; omega
              case c4z20 => have := hlen.out; omega
              case c5z20 => have := hQ.out.size; simp; omega
              case nextz20 =>
                intro v2 w2 hown' hgrow _
                have hQ3 := Lib.hid (hQ.out.append0 (news := [(hexC d).toUInt8]) hown' hgrow (by simp) (by simp only [bytesV, List.map_cons, List.map_nil]; rw [hst.out.2]))
                have hQ4 : Hid (QAt w w2 s (w.heap.size + 1) (pos + (enc x).length) v2 (T ++ [92, 85] ++ (hexB x).take 8)) := by
                  show QAt _ _ _ _ _ _ _
                  rw [hst.out.1, ← List.append_assoc, hTT.out]; exact hQ3.out
                clear hown' hgrow
                go_wp2_with fail
                go_roundg (20 - 8)
                case measure => omega
                case rel => exact ⟨v2, 8, rfl, rfl, by omega, by go_num, hQ4.out⟩
            · have h2 := hQ.out
              rw [List.take_of_length_le (by rw [hexB_len]; omega), List.append_assoc, ← hexB_unit] at h2
              have hQ5 := Lib.hid h2
              clear h2
              go_wp2_with fail
              go_roundg (rest.length + 5)
              case measure => simp
              case rel => exact ⟨_, rs ++ [x], rest, _, _, rfl, rfl, hnx2.out, hQ5.out, quo_snoc hT.out (92 :: 85 :: hex8 x) _ (by simp [unitQ, hU.out]) rfl (by rw [hexB_unit]; simp [hexB_len])⟩

      have t127 : ((x : Int) == 127) = false := by simp; omega
      by_cases h10 : x = 10
      · subst h10
        clear h127 t127
        go_wp2_with (at_builtin; refine wpList_append_own _ rfl (.tmp 61) (.tmp 62) 41 rfl w.heap.size 5 i0 _ 1 1 Tryd.underlying41 HI.out HZ.out.1 HZ.out.2.1 HZ.out.2.2 rfl (by decide) _ _ _ rfl (hQ.out.own.alloc _) ⟨wi.heap.size, 0, none⟩ 2 2 [.int .u8 92, .int .u8 110] rfl rfl ?c1z21 ?c2z21 ?c3z21 ?c4z21 ?c5z21 ?nextz21)
        any_goals (first | exact new_cells _ _ | skip)
        case c2z21 => simp [Value.oneCell']
        case c3z21 => have := hTL.out; unfold maxLen; omega
        case c4z21 => have := hTL.out; omega
        case c5z21 => have := hQ.out.size; simp; omega
        case nextz21 =>
          intro v' w' hown' hgrow _
          have hQ2 := Lib.hid (hQ.out.append0 (news := [92, 110]) hown' hgrow (by simp) (rfl))
          clear hown' hgrow
          go_wp2_with fail
          go_roundg (rest.length + 5)
          case measure => simp
          case rel => exact ⟨v', rs ++ [10], rest, _, _, rfl, rfl, hnx2.out, hQ2.out, quo_snoc hT.out [92, 110] _ (by simp [unitQ]) (by decide +kernel) (by simp)⟩
      have t10 : ((x : Int) == 10) = false := by simp; omega
      by_cases h9 : x = 9
      · subst h9
        clear h127 t127 h10 t10
        go_wp2_with (at_builtin; refine wpList_append_own _ rfl (.tmp 67) (.tmp 68) 41 rfl w.heap.size 5 i0 _ 1 1 Tryd.underlying41 HI.out HZ.out.1 HZ.out.2.1 HZ.out.2.2 rfl (by decide) _ _ _ rfl (hQ.out.own.alloc _) ⟨wi.heap.size, 0, none⟩ 2 2 [.int .u8 92, .int .u8 116] rfl rfl ?c1z22 ?c2z22 ?c3z22 ?c4z22 ?c5z22 ?nextz22)
        any_goals (first | exact new_cells _ _ | skip)
        case c2z22 => simp [Value.oneCell']
        case c3z22 => have := hTL.out; unfold maxLen; omega
        case c4z22 => have := hTL.out; omega
        case c5z22 => have := hQ.out.size; simp; omega
        case nextz22 =>
          intro v' w' hown' hgrow _
          have hQ2 := Lib.hid (hQ.out.append0 (news := [92, 116]) hown' hgrow (by simp) (rfl))
          clear hown' hgrow
          go_wp2_with fail
          go_roundg (rest.length + 5)
          case measure => simp
          case rel => exact ⟨v', rs ++ [9], rest, _, _, rfl, rfl, hnx2.out, hQ2.out, quo_snoc hT.out [92, 116] _ (by simp [unitQ]) (by decide +kernel) (by simp)⟩
      have t9 : ((x : Int) == 9) = false := by simp; omega
      by_cases h13 : x = 13
      · subst h13
        clear h127 t127 h10 t10 h9 t9
        go_wp2_with (at_builtin; refine wpList_append_own _ rfl (.tmp 73) (.tmp 74) 41 rfl w.heap.size 5 i0 _ 1 1 Tryd.underlying41 HI.out HZ.out.1 HZ.out.2.1 HZ.out.2.2 rfl (by decide) _ _ _ rfl (hQ.out.own.alloc _) ⟨wi.heap.size, 0, none⟩ 2 2 [.int .u8 92, .int .u8 114] rfl rfl ?c1z23 ?c2z23 ?c3z23 ?c4z23 ?c5z23 ?nextz23)
        any_goals (first | exact new_cells _ _ | skip)
        case c2z23 => simp [Value.oneCell']
        case c3z23 => have := hTL.out; unfold maxLen; omega
        case c4z23 => have := hTL.out; omega
        case c5z23 => have := hQ.out.size; simp; omega
        case nextz23 =>
          intro v' w' hown' hgrow _
          have hQ2 := Lib.hid (hQ.out.append0 (news := [92, 114]) hown' hgrow (by simp) (rfl))
          clear hown' hgrow
          go_wp2_with fail
          go_roundg (rest.length + 5)
          case measure => simp
          case rel => exact ⟨v', rs ++ [13], rest, _, _, rfl, rfl, hnx2.out, hQ2.out, quo_snoc hT.out [92, 114] _ (by simp [unitQ]) (by decide +kernel) (by simp)⟩
      have t13 : ((x : Int) == 13) = false := by simp; omega
      by_cases h32 : x < 32
      · have t32 : (x : Int) < 32 := by omega
        have n10 : ((x : Int) != 10) = true := by simp; omega
        have n9 : ((x : Int) != 9) = true := by simp; omega
        have n13 : ((x : Int) != 13) = true := by simp; omega
        have hU := Lib.hid (And.intro h32 (And.intro h10 (And.intro h9 h13)))
        clear h127 h10 h9 h13 h32
        go_wp2_with (at_builtin; refine wpList_append_own _ rfl (.tmp 43) (.tmp 44) 41 rfl w.heap.size 5 i0 _ 1 1 Tryd.underlying41 HI.out HZ.out.1 HZ.out.2.1 HZ.out.2.2 rfl (by decide) _ _ _ rfl (hQ.out.own.alloc _) ⟨wi.heap.size, 0, none⟩ 2 2 [.int .u8 92, .int .u8 85] rfl rfl ?c1z24 ?c2z24 ?c3z24 ?c4z24 ?c5z24 ?nextz24)
        any_goals (first | exact new_cells _ _ | skip)
        case c2z24 => simp [Value.oneCell']
        case c3z24 => have := hTL.out; unfold maxLen; omega
        case c4z24 => have := hTL.out; omega
        case c5z24 => have := hQ.out.size; simp; omega
        case nextz24 =>
          intro v' w' hown' hgrow _
          have hQ2 := Lib.hid (hQ.out.append0 (news := [92, 85]) hown' hgrow (by simp) rfl)
          have hx31 : Hid (x < 2147483648) := by have := hok.out; unfold okR at this; show x < 2147483648; omega
          clear hown' hgrow hnx
          go_wp2_with fail
          go_loopg [7, 10] 20 (fun g v kk wj => ∃ (v1 : Value) (j : Nat), v = v1 ∧ g = 20 - j ∧ j ≤ 8 ∧ kk = .int .i64 (28 - 4 * (j : Int)) ∧ Hid (QAt w wj s (w.heap.size + 1) (pos + (enc x).length) v1 (T ++ [92, 85] ++ (hexB x).take j)))
          case atStart => exact ⟨_, 0, rfl, rfl, by omega, rfl, Lib.hid (by simpa using hQ2.out)⟩
          case round =>
            obtain ⟨v1, j, rfl, rfl, hj, rfl, hQ⟩ := hrel
            obtain rfl | rfl | rfl | rfl | rfl | rfl | rfl | rfl | rfl : j = 0 ∨ j = 1 ∨ j = 2 ∨ j = 3 ∨ j = 4 ∨ j = 5 ∨ j = 6 ∨ j = 7 ∨ j = 8 := by omega
            · obtain ⟨d, hd⟩ : ∃ d, d = x / 268435456 % 16 := ⟨_, rfl⟩
              have hb : bits BinOp.and IntKind.i32 ((x : Int) / 268435456) 15 = (d : Int) := by
                rw [hd]; exact and15d x 268435456 hx31.out
              have hd16 : d < 16 := by omega
              have hd0 : (0 : Int) ≤ (d : Int) := by omega
              have hd1 : (d : Int) < 16 := by omega
              have hat := hexAt d hd16
              have hst : Hid ((hexB x).take 1 = (hexB x).take 0 ++ [(hexC d).toUInt8] ∧ (hexC d).toUInt8.toNat = hexC d) := by
                refine ⟨?_, hexC_val d hd16⟩
                rw [hd]; rfl
              have hlen : Hid ((T ++ [92, 85] ++ (hexB x).take 0).length ≤ 611) := by
                have h1 := hTL.out
                have h2 := hexB_len x
                show _ ≤ _
                simp only [List.length_append, List.length_take, List.length_cons, List.length_nil]; omega
              clear hd
              generalize hTT : T ++ [92, 85] ++ (hexB x).take 0 = TT at *
              have hTT := Lib.hid hTT
              go_wp2_with (at_builtin; refine wpList_append_own _ rfl (.tmp 50) (.tmp 56) 41 rfl w.heap.size 5 i0 _ 1 1 Tryd.underlying41 HI.out HZ.out.1 HZ.out.2.1 HZ.out.2.2 rfl (by decide) _ _ _ rfl (hQ.out.own.alloc _) ⟨wr.heap.size, 0, none⟩ 1 1 [.int .u8 ((hexC d : Nat) : Int)] rfl rfl ?c1z25 ?c2z25 ?c3z25 ?c4z25 ?c5z25 ?nextz25)
              any_goals (first | exact new_cells _ _ | skip)
              case c2z25 => simp [Value.oneCell']
              case c3z25 => have := hlen.out; unfold maxLen; omega
              case c4z25 => have := hlen.out; omega
              case c5z25 => have := hQ.out.size; simp; omega
              case nextz25 =>
                intro v2 w2 hown' hgrow _
                have hQ3 := Lib.hid (hQ.out.append0 (news := [(hexC d).toUInt8]) hown' hgrow (by simp) (by simp only [bytesV, List.map_cons, List.map_nil]; rw [hst.out.2]))
                have hQ4 : Hid (QAt w w2 s (w.heap.size + 1) (pos + (enc x).length) v2 (T ++ [92, 85] ++ (hexB x).take 1)) := by
                  show QAt _ _ _ _ _ _ _
                  rw [hst.out.1, ← List.append_assoc, hTT.out]; exact hQ3.out
                clear hown' hgrow
                go_wp2_with fail
                go_roundg (20 - 1)
                case measure => omega
                case rel => exact ⟨v2, 1, rfl, rfl, by omega, by go_num, hQ4.out⟩
            · obtain ⟨d, hd⟩ : ∃ d, d = x / 16777216 % 16 := ⟨_, rfl⟩
              have hb : bits BinOp.and IntKind.i32 ((x : Int) / 16777216) 15 = (d : Int) := by
                rw [hd]; exact and15d x 16777216 hx31.out
              have hd16 : d < 16 := by omega
              have hd0 : (0 : Int) ≤ (d : Int) := by omega
              have hd1 : (d : Int) < 16 := by omega
              have hat := hexAt d hd16
              have hst : Hid ((hexB x).take 2 = (hexB x).take 1 ++ [(hexC d).toUInt8] ∧ (hexC d).toUInt8.toNat = hexC d) := by
                refine ⟨?_, hexC_val d hd16⟩
                rw [hd]; rfl
              have hlen : Hid ((T ++ [92, 85] ++ (hexB x).take 1).length ≤ 611) := by
                have h1 := hTL.out
                have h2 := hexB_len x
                show _ ≤ _
                simp only [List.length_append, List.length_take, List.length_cons, List.length_nil]; omega
              clear hd
              generalize hTT : T ++ [92, 85] ++ (hexB x).take 1 = TT at *
              have hTT := Lib.hid hTT
              go_wp2_with (at_builtin; refine wpList_append_own _ rfl (.tmp 50) (.tmp 56) 41 rfl w.heap.size 5 i0 _ 1 1 Tryd.underlying41 HI.out HZ.out.1 HZ.out.2.1 HZ.out.2.2 rfl (by decide) _ _ _ rfl (hQ.out.own.alloc _) ⟨wr.heap.size, 0, none⟩ 1 1 [.int .u8 ((hexC d : Nat) : Int)] rfl rfl ?c1z26 ?c2z26 ?c3z26 ?c4z26 ?c5z26 ?nextz26)
              any_goals (first | exact new_cells _ _ | skip)
              case c2z26 => simp [Value.oneCell']
              case c3z26 => have := hlen.out; unfold maxLen; omega
              case c4z26 => have := hlen.out; omega
              case c5z26 => have := hQ.out.size; simp; omega
              case nextz26 =>
                intro v2 w2 hown' hgrow _
                have hQ3 := Lib.hid (hQ.out.append0 (news := [(hexC d).toUInt8]) hown' hgrow (by simp) (by simp only [bytesV, List.map_cons, List.map_nil]; rw [hst.out.2]))
                have hQ4 : Hid (QAt w w2 s (w.heap.size + 1) (pos + (enc x).length) v2 (T ++ [92, 85] ++ (hexB x).take 2)) := by
                  show QAt _ _ _ _ _ _ _
                  rw [hst.out.1, ← List.append_assoc, hTT.out]; exact hQ3.out
                clear hown' hgrow
                go_wp2_with fail
                go_roundg (20 - 2)
                case measure => omega
                case rel => exact ⟨v2, 2, rfl, rfl, by omega, by go_num, hQ4.out⟩
            · obtain ⟨d, hd⟩ : ∃ d, d = x / 1048576 % 16 := ⟨_, rfl⟩
              have hb : bits BinOp.and IntKind.i32 ((x : Int) / 1048576) 15 = (d : Int) := by
                rw [hd]; exact and15d x 1048576 hx31.out
              have hd16 : d < 16 := by omega
              have hd0 : (0 : Int) ≤ (d : Int) := by omega
              have hd1 : (d : Int) < 16 := by omega
              have hat := hexAt d hd16
              have hst : Hid ((hexB x).take 3 = (hexB x).take 2 ++ [(hexC d).toUInt8] ∧ (hexC d).toUInt8.toNat = hexC d) := by
                refine ⟨?_, hexC_val d hd16⟩
                rw [hd]; rfl
              have hlen : Hid ((T ++ [92, 85] ++ (hexB x).take 2).length ≤ 611) := by
                have h1 := hTL.out
                have h2 := hexB_len x
                show _ ≤ _
                simp only [List.length_append, List.length_take, List.length_cons, List.length_nil]; omega
              clear hd
              generalize hTT : T ++ [92, 85] ++ (hexB x).take 2 = TT at *
              have hTT := Lib.hid hTT
              go_wp2_with (at_builtin; refine wpList_append_own _ rfl (.tmp 50) (.tmp 56) 41 rfl w.heap.size 5 i0 _ 1 1 Tryd.underlying41 HI.out HZ.out.1 HZ.out.2.1 HZ.out.2.2 rfl (by decide) _ _ _ rfl (hQ.out.own.alloc _) ⟨wr.heap.size, 0, none⟩ 1 1 [.int .u8 ((hexC d : Nat) : Int)] rfl rfl ?c1z27 ?c2z27 ?c3z27 ?c4z27 ?c5z27 ?nextz27)
              any_goals (first | exact new_cells _ _ | skip)
              case c2z27 => simp [Value.oneCell']
              case c3z27 => have := hlen.out; unfold maxLen; omega
              case c4z27 => have := hlen.out; omega
              case c5z27 => have := hQ.out.size; simp; omega
              case nextz27 =>
                intro v2 w2 hown' hgrow _
                have hQ3 := Lib.hid (hQ.out.append0 (news := [(hexC d).toUInt8]) hown' hgrow (by simp) (by simp only [bytesV, List.map_cons, List.map_nil]; rw [hst.out.2]))
                have hQ4 : Hid (QAt w w2 s (w.heap.size + 1) (pos + (enc x).length) v2 (T ++ [92, 85] ++ (hexB x).take 3)) := by
                  show QAt _ _ _ _ _ _ _
                  rw [hst.out.1, ← List.append_assoc, hTT.out]; exact hQ3.out
                clear hown' hgrow
                go_wp2_with fail
                go_roundg (20 - 3)
                case measure => omega
                case rel => exact ⟨v2, 3, rfl, rfl, by omega, by go_num, hQ4.out⟩
            · obtain ⟨d, hd⟩ : ∃ d, d = x / 65536 % 16 := ⟨_, rfl⟩
              have hb : bits BinOp.and IntKind.i32 ((x : Int) / 65536) 15 = (d : Int) := by
                rw [hd]; exact and15d x 65536 hx31.out
              have hd16 : d < 16 := by omega
              have hd0 : (0 : Int) ≤ (d : Int) := by omega
              have hd1 : (d : Int) < 16 := by omega
              have hat := hexAt d hd16
              have hst : Hid ((hexB x).take 4 = (hexB x).take 3 ++ [(hexC d).toUInt8] ∧ (hexC d).toUInt8.toNat = hexC d) := by
                refine ⟨?_, hexC_val d hd16⟩
                rw [hd]; rfl
              have hlen : Hid ((T ++ [92, 85] ++ (hexB x).take 3).length ≤ 611) := by
                have h1 := hTL.out
                have h2 := hexB_len x
                show _ ≤ _
                simp only [List.length_append, List.length_take, List.length_cons, List.length_nil]; omega
              clear hd
              generalize hTT : T ++ [92, 85] ++ (hexB x).take 3 = TT at *
              have hTT := Lib.hid hTT
              go_wp2_with (at_builtin; refine wpList_append_own _ rfl (.tmp 50) (.tmp 56) 41 rfl w.heap.size 5 i0 _ 1 1 Tryd.underlying41 HI.out HZ.out.1 HZ.out.2.1 HZ.out.2.2 rfl (by decide) _ _ _ rfl (hQ.out.own.alloc _) ⟨wr.heap.size, 0, none⟩ 1 1 [.int .u8 ((hexC d : Nat) : Int)] rfl rfl ?c1z28 ?c2z28 ?c3z28 ?c4z28 ?c5z28 ?nextz28)
              any_goals (first | exact new_cells _ _ | skip)
              case c2z28 => simp [Value.oneCell']
              case c3z28 => have := hlen.out; unfold maxLen; omega
              case c4z28 => have := hlen.out; omega
              case c5z28 => have := hQ.out.size; simp; omega
              case nextz28 =>
                intro v2 w2 hown' hgrow _
                have hQ3 := Lib.hid (hQ.out.append0 (news := [(hexC d).toUInt8]) hown' hgrow (by simp) (by simp only [bytesV, List.map_cons, List.map_nil]; rw [hst.out.2]))
                have hQ4 : Hid (QAt w w2 s (w.heap.size + 1) (pos + (enc x).length) v2 (T ++ [92, 85] ++ (hexB x).take 4)) := by
                  show QAt _ _ _ _ _ _ _
                  rw [hst.out.1, ← List.append_assoc, hTT.out]; exact hQ3.out
                clear hown' hgrow
                go_wp2_with fail
                go_roundg (20 - 4)
                case measure => omega
                case rel => exact ⟨v2, 4, rfl, rfl, by omega, by go_num, hQ4.out⟩
            · obtain ⟨d, hd⟩ : ∃ d, d = x / 4096 % 16 := ⟨_, rfl⟩
              have hb : bits BinOp.and IntKind.i32 ((x : Int) / 4096) 15 = (d : Int) := by
                rw [hd]; exact and15d x 4096 hx31.out
              have hd16 : d < 16 := by omega
              have hd0 : (0 : Int) ≤ (d : Int) := by omega
              have hd1 : (d : Int) < 16 := by omega
              have hat := hexAt d hd16
              have hst : Hid ((hexB x).take 5 = (hexB x).take 4 ++ [(hexC d).toUInt8] ∧ (hexC d).toUInt8.toNat = hexC d) := by
                refine ⟨?_, hexC_val d hd16⟩
                rw [hd]; rfl
              have hlen : Hid ((T ++ [92, 85] ++ (hexB x).take 4).length ≤ 611) := by
                have h1 := hTL.out
                have h2 := hexB_len x
                show _ ≤ _
                simp only [List.length_append, List.length_take, List.length_cons, List.length_nil]; omega
              clear hd
              generalize hTT : T ++ [92, 85] ++ (hexB x).take 4 = TT at *
              have hTT := Lib.hid hTT
              go_wp2_with (at_builtin; refine wpList_append_own _ rfl (.tmp 50) (.tmp 56) 41 rfl w.heap.size 5 i0 _ 1 1 Tryd.underlying41 HI.out HZ.out.1 HZ.out.2.1 HZ.out.2.2 rfl (by decide) _ _ _ rfl (hQ.out.own.alloc _) ⟨wr.heap.size, 0, none⟩ 1 1 [.int .u8 ((hexC d : Nat) : Int)] rfl rfl ?c1z29 ?c2z29 ?c3z29 ?c4z29 ?c5z29 ?nextz29)
              any_goals (first | exact new_cells _ _ | skip)
              case c2z29 => simp [Value.oneCell']
              case c3z29 => have := hlen.out; unfold maxLen; omega
              case c4z29 => have := hlen.out; omega
              case c5z29 => have := hQ.out.size; simp; omega
              case nextz29 =>
                intro v2 w2 hown' hgrow _
                have hQ3 := Lib.hid (hQ.out.append0 (news := [(hexC d).toUInt8]) hown' hgrow (by simp) (by simp only [bytesV, List.map_cons, List.map_nil]; rw [hst.out.2]))
                have hQ4 : Hid (QAt w w2 s (w.heap.size + 1) (pos + (enc x).length) v2 (T ++ [92, 85] ++ (hexB x).take 5)) := by
                  show QAt _ _ _ _ _ _ _
                  rw [hst.out.1, ← List.append_assoc, hTT.out]; exact hQ3.out
                clear hown' hgrow
                go_wp2_with fail
                go_roundg (20 - 5)
                case measure => omega
                case rel => exact ⟨v2, 5, rfl, rfl, by omega, by go_num, hQ4.out⟩
            · obtain ⟨d, hd⟩ : ∃ d, d = x / 256 % 16 := ⟨_, rfl⟩
              have hb : bits BinOp.and IntKind.i32 ((x : Int) / 256) 15 = (d : Int) := by
                rw [hd]; exact and15d x 256 hx31.out
              have hd16 : d < 16 := by omega
              have hd0 : (0 : Int) ≤ (d : Int) := by omega
              have hd1 : (d : Int) < 16 := by omega
              have hat := hexAt d hd16
              have hst : Hid ((hexB x).take 6 = (hexB x).take 5 ++ [(hexC d).toUInt8] ∧ (hexC d).toUInt8.toNat = hexC d) := by
                refine ⟨?_, hexC_val d hd16⟩
                rw [hd]; rfl
              have hlen : Hid ((T ++ [92, 85] ++ (hexB x).take 5).length ≤ 611) := by
                have h1 := hTL.out
                have h2 := hexB_len x
                show _ ≤ _
                simp only [List.length_append, List.length_take, List.length_cons, List.length_nil]; omega
              clear hd
              generalize hTT : T ++ [92, 85] ++ (hexB x).take 5 = TT at *
              have hTT := Lib.hid hTT
              go_wp2_with (at_builtin; refine wpList_append_own _ rfl (.tmp 50) (.tmp 56) 41 rfl w.heap.size 5 i0 _ 1 1 Tryd.underlying41 HI.out HZ.out.1 HZ.out.2.1 HZ.out.2.2 rfl (by decide) _ _ _ rfl (hQ.out.own.alloc _) ⟨wr.heap.size, 0, none⟩ 1 1 [.int .u8 ((hexC d : Nat) : Int)] rfl rfl ?c1z30 ?c2z30 ?c3z30 ?c4z30 ?c5z30 ?nextz30)
              any_goals (first | exact new_cells _ _ | skip)
              case c2z30 => simp [Value.oneCell']
              case c3z30 => have := hlen.out; unfold maxLen; omega
              case c4z30 => have := hlen.out; omega
              case c5z30 => have := hQ.out.size; simp; omega
              case nextz30 =>
                intro v2 w2 hown' hgrow _
                have hQ3 := Lib.hid (hQ.out.append0 (news := [(hexC d).toUInt8]) hown' hgrow (by simp) (by simp only [bytesV, List.map_cons, List.map_nil]; rw [hst.out.2]))
                have hQ4 : Hid (QAt w w2 s (w.heap.size + 1) (pos + (enc x).length) v2 (T ++ [92, 85] ++ (hexB x).take 6)) := by
                  show QAt _ _ _ _ _ _ _
                  rw [hst.out.1, ← List.append_assoc, hTT.out]; exact hQ3.out
                clear hown' hgrow
                go_wp2_with fail
                go_roundg (20 - 6)
                case measure => omega
                case rel => exact ⟨v2, 6, rfl, rfl, by omega, by go_num, hQ4.out⟩
            · obtain ⟨d, hd⟩ : ∃ d, d = x / 16 % 16 := ⟨_, rfl⟩
              have hb : bits BinOp.and IntKind.i32 ((x : Int) / 16) 15 = (d : Int) := by
                rw [hd]; exact and15d x 16 hx31.out
              have hd16 : d < 16 := by omega
              have hd0 : (0 : Int) ≤ (d : Int) := by omega
              have hd1 : (d : Int) < 16 := by omega
              have hat := hexAt d hd16
              have hst : Hid ((hexB x).take 7 = (hexB x).take 6 ++ [(hexC d).toUInt8] ∧ (hexC d).toUInt8.toNat = hexC d) := by
                refine ⟨?_, hexC_val d hd16⟩
                rw [hd]; rfl
              have hlen : Hid ((T ++ [92, 85] ++ (hexB x).take 6).length ≤ 611) := by
                have h1 := hTL.out
                have h2 := hexB_len x
                show _ ≤ _
                simp only [List.length_append, List.length_take, List.length_cons, List.length_nil]; omega
              clear hd
              generalize hTT : T ++ [92, 85] ++ (hexB x).take 6 = TT at *
              have hTT := Lib.hid hTT
              go_wp2_with (at_builtin; refine wpList_append_own _ rfl (.tmp 50) (.tmp 56) 41 rfl w.heap.size 5 i0 _ 1 1 Tryd.underlying41 HI.out HZ.out.1 HZ.out.2.1 HZ.out.2.2 rfl (by decide) _ _ _ rfl (hQ.out.own.alloc _) ⟨wr.heap.size, 0, none⟩ 1 1 [.int .u8 ((hexC d : Nat) : Int)] rfl rfl ?c1z31 ?c2z31 ?c3z31 ?c4z31 ?c5z31 ?nextz31)
              any_goals (first | exact new_cells _ _ | skip)
              case c2z31 => simp [Value.oneCell']
              case c3z31 => have := hlen.out; unfold maxLen; omega
              case c4z31 => have := hlen.out; omega
              case c5z31 => have := hQ.out.size; simp; omega
              case nextz31 =>
                intro v2 w2 hown' hgrow _
                have hQ3 := Lib.hid (hQ.out.append0 (news := [(hexC d).toUInt8]) hown' hgrow (by simp) (by simp only [bytesV, List.map_cons, List.map_nil]; rw [hst.out.2]))
                have hQ4 : Hid (QAt w w2 s (w.heap.size + 1) (pos + (enc x).length) v2 (T ++ [92, 85] ++ (hexB x).take 7)) := by
                  show QAt _ _ _ _ _ _ _
                  rw [hst.out.1, ← List.append_assoc, hTT.out]; exact hQ3.out
                clear hown' hgrow
                go_wp2_with fail
                go_roundg (20 - 7)
                case measure => omega
                case rel => exact ⟨v2, 7, rfl, rfl, by omega, by go_num, hQ4.out⟩
            · obtain ⟨d, hd⟩ : ∃ d, d = x % 16 := ⟨_, rfl⟩
              have hb : bits BinOp.and IntKind.i32 ((x : Int)) 15 = (d : Int) := by
                rw [hd]; exact and15 x hx31.out
              have hd16 : d < 16 := by omega
              have hd0 : (0 : Int) ≤ (d : Int) := by omega
              have hd1 : (d : Int) < 16 := by omega
              have hat := hexAt d hd16
              have hst : Hid ((hexB x).take 8 = (hexB x).take 7 ++ [(hexC d).toUInt8] ∧ (hexC d).toUInt8.toNat = hexC d) := by
                refine ⟨?_, hexC_val d hd16⟩
                rw [hd]; rfl
              have hlen : Hid ((T ++ [92, 85] ++ (hexB x).take 7).length ≤ 611) := by
                have h1 := hTL.out
                have h2 := hexB_len x
                show _ ≤ _
                simp only [List.length_append, List.length_take, List.length_cons, List.length_nil]; omega
              clear hd
              generalize hTT : T ++ [92, 85] ++ (hexB x).take 7 = TT at *
              have hTT := Lib.hid hTT
              go_wp2_with (at_builtin; refine wpList_append_own _ rfl (.tmp 50) (.tmp 56) 41 rfl w.heap.size 5 i0 _ 1 1 Tryd.underlying41 HI.out HZ.out.1 HZ.out.2.1 HZ.out.2.2 rfl (by decide) _ _ _ rfl (hQ.out.own.alloc _) ⟨wr.heap.size, 0, none⟩ 1 1 [.int .u8 ((hexC d : Nat) : Int)] rfl rfl ?c1z32 ?c2z32 ?c3z32 ?c4z32 ?c5z32 ?nextz32)
              any_goals (first | exact new_cells _ _ | skip)
              case c2z32 => simp [Value.oneCell']
              case c3z32 => have := hlen.out; unfold maxLen; omega
              case c4z32 => have := hlen.out; omega
              case c5z32 => have := hQ.out.size; simp; omega
              case nextz32 =>
                intro v2 w2 hown' hgrow _
                have hQ3 := Lib.hid (hQ.out.append0 (news := [(hexC d).toUInt8]) hown' hgrow (by simp) (by simp only [bytesV, List.map_cons, List.map_nil]; rw [hst.out.2]))
                have hQ4 : Hid (QAt w w2 s (w.heap.size + 1) (pos + (enc x).length) v2 (T ++ [92, 85] ++ (hexB x).take 8)) := by
                  show QAt _ _ _ _ _ _ _
                  rw [hst.out.1, ← List.append_assoc, hTT.out]; exact hQ3.out
                clear hown' hgrow
                go_wp2_with fail
                go_roundg (20 - 8)
                case measure => omega
                case rel => exact ⟨v2, 8, rfl, rfl, by omega, by go_num, hQ4.out⟩
            · have h2 := hQ.out
              rw [List.take_of_length_le (by rw [hexB_len]; omega), List.append_assoc, ← hexB_unit] at h2
              have hQ5 := Lib.hid h2
              clear h2
              go_wp2_with fail
              go_roundg (rest.length + 5)
              case measure => simp
              case rel => exact ⟨_, rs ++ [x], rest, _, _, rfl, rfl, hnx2.out, hQ5.out, quo_snoc hT.out (92 :: 85 :: hex8 x) _ (by have := hU.out; simp [unitQ, this.1, this.2.1, this.2.2.1, this.2.2.2]) rfl (by rw [hexB_unit]; simp [hexB_len])⟩

      have t32 : ¬ (x : Int) < 32 := by omega
      have hU0 : ¬ (x = 127 ∨ (x < 32 ∧ x ≠ 10 ∧ x ≠ 9 ∧ x ≠ 13)) := by omega
      by_cases hxq : x = q
      · subst hxq
        have hu8 : IntKind.u8.wrap (x : Int) = (x : Int) := hq8
        have hUU : Hid (unitQ x false x = [92, x] ∧ encs [92, x] = [92, x.toUInt8] ∧ x.toUInt8.toNat = x) := by
          have := HQ.out
          refine ⟨?_, ?_, q_val this⟩
          · rcases this with rfl | rfl <;> simp [unitQ]
          · rcases this with rfl | rfl <;> decide +kernel
        clear h127 h10 h9 h13 h32 hU0
        go_wp2_with (at_builtin; refine wpList_append_own _ rfl (.tmp 85) (.tmp 88) 41 rfl w.heap.size 5 i0 _ 1 1 Tryd.underlying41 HI.out HZ.out.1 HZ.out.2.1 HZ.out.2.2 rfl (by decide) _ _ _ rfl (hQ.out.own.alloc _) ⟨wi.heap.size, 0, none⟩ 2 2 [.int .u8 92, .int .u8 (x : Int)] rfl rfl ?c1z33 ?c2z33 ?c3z33 ?c4z33 ?c5z33 ?nextz33)
        any_goals (first | exact new_cells _ _ | skip)
        case c2z33 => simp [Value.oneCell']
        case c3z33 => have := hTL.out; unfold maxLen; omega
        case c4z33 => have := hTL.out; omega
        case c5z33 => have := hQ.out.size; simp; omega
        case nextz33 =>
          intro v' w' hown' hgrow _
          have hQ2 := Lib.hid (hQ.out.append0 (news := [92, x.toUInt8]) hown' hgrow (by simp) (by simp only [bytesV, List.map_cons, List.map_nil]; rw [hUU.out.2.2]; rfl))
          clear hown' hgrow
          go_wp2_with fail
          go_roundg (rest.length + 5)
          case measure => simp
          case rel => exact ⟨v', rs ++ [x], rest, _, _, rfl, rfl, hnx2.out, hQ2.out, quo_snoc hT.out [92, x] _ hUU.out.1 hUU.out.2.1 (by simp)⟩
      have txq : ((x : Int) == (q : Int)) = false := by simp; omega
      by_cases h92 : x = 92
      · subst h92
        have hUU : Hid (unitQ q false 92 = [92, 92]) := by
          have := HQ.out
          show _ = _
          rcases this with rfl | rfl <;> simp [unitQ]
        have t92q : ((92 : Int) == (q : Int)) = false := by simp; omega
        clear h127 h10 h9 h13 h32 hU0 hxq
        go_wp2_with (at_builtin; refine wpList_append_own _ rfl (.tmp 85) (.tmp 88) 41 rfl w.heap.size 5 i0 _ 1 1 Tryd.underlying41 HI.out HZ.out.1 HZ.out.2.1 HZ.out.2.2 rfl (by decide) _ _ _ rfl (hQ.out.own.alloc _) ⟨wi.heap.size, 0, none⟩ 2 2 [.int .u8 92, .int .u8 92] rfl rfl ?c1z34 ?c2z34 ?c3z34 ?c4z34 ?c5z34 ?nextz34)
        any_goals (first | exact new_cells _ _ | skip)
        case c2z34 => simp [Value.oneCell']
        case c3z34 => have := hTL.out; unfold maxLen; omega
        case c4z34 => have := hTL.out; omega
        case c5z34 => have := hQ.out.size; simp; omega
        case nextz34 =>
          intro v' w' hown' hgrow _
          have hQ2 := Lib.hid (hQ.out.append0 (news := [92, 92]) hown' hgrow (by simp) (rfl))
          clear hown' hgrow
          go_wp2_with fail
          go_roundg (rest.length + 5)
          case measure => simp
          case rel => exact ⟨v', rs ++ [92], rest, _, _, rfl, rfl, hnx2.out, hQ2.out, quo_snoc hT.out [92, 92] _ hUU.out (by decide +kernel) (by simp)⟩
      have t92 : ((x : Int) == 92) = false := by simp; omega
      have hUU : Hid (unitQ q false x = [x]) := by
        show _ = _
        unfold unitQ
        rw [if_neg (by simp; omega), if_neg h10, if_neg h9, if_neg h13, if_neg (by omega)]
      have hxl : Hid (-2147483648 ≤ (x : Int) ∧ (x : Int) ≤ 2147483647) := by have := hok.out; unfold okR at this; show _ ∧ _; omega
      clear h127 h10 h9 h13 h32 hU0 hxq h92
      have hlen4 : Hid (T.length + 4 ≤ 140737488355328) := by have := hTL.out; show _ ≤ _; omega
      go_wp2_with (go_at_call 43; refine (Tryd.utf8_AppendRune_plain w.heap.size _ T.length (bytesV T) (x : Int) hxl.out.1 hxl.out.2 _ hQ.out.own hlen4.out hQ.out.size).mono ?_; rintro e w' ⟨v', rfl, hown', o, hgrow⟩; rw [runeCells_bytes] at hown'; have hQ2 := Lib.hid (hQ.out.append0 (news := enc x) hown' hgrow (by simp [bytesV]) rfl); clear hown' hgrow)
      go_roundg (rest.length + 5)
      case measure => simp
      case rel => exact ⟨v', rs ++ [x], rest, _, _, rfl, rfl, hnx2.out, hQ2.out, quo_snoc hT.out [x] _ hUU.out (by simp [encs]) (by have := enc_len_le x; omega)⟩
end Go.Proofs.YtnehkpoggkfikaaDoor
