/-
  The walk through number: an invalid digit. Conditions: each law's own. (Printed by gentail2.py.)
  The walk through number: the exponent whole. Conditions: each law's own. (Printed by gentail2.py.)
  The walk through number: its parts joined. Conditions: each law's own. (Printed by gentail2.py.)
  The walk through number, whole: what its reader leaves. Conditions: the law's own. (Printed by genw.py.)
  A scanner at a place of its text, no notes yet: the list of notes is nil; what a number's reader gives a door. Conditions: each law's own.
-/
import Derived.Test.YtnehkpoggkfikaaDoorMNumA
import Derived.Deep.RegionHeld3
import Derived.Test.YtnehkpoggkfikaaDoorMNumV
namespace Go.Proofs.YtnehkpoggkfikaaDoor
open Go.RowKit
set_option linter.unusedVariables false

set_option maxRecDepth 1000000 in
set_option maxHeartbeats 8000000 in
theorem pc12 (E : Env) (ib : Nat) (Pb : List UInt8) (L : List Nat) (m : Int) (w wb : World) (n : NS) (u2 u3 u10 u11 u12 u13 u14 u15 u16 u17 u18 u19 u20 u21 u22 u23 u24 u25 u26 u27 u28 u29 u30 u31 u32 u33 u34 u35 u36 u37 u38 u39 u40 u41 u42 u43 u44 u45 u46 u47 u48 u49 u50 u51 u52 u53 u54 u55 u56 u57 u58 u59 u60 u61 u62 u63 u64 u65 u66 u67 u68 u69 u70 u71 u72 u73 u74 u75 u76 u77 u78 u79 u80 u81 u82 u83 u84 u85 u86 u87 u88 u89 u90 u91 u92 u93 u94 u95 u96 u97 u98 u99 u100 u101 u102 u103 u104 u105 u106 u107 u108 u109 u110 u111 u112 u113 u114 u115 u116 u117 u118 u119 u120 u121 u122 u123 u124 u125 u126 u127 u128 u129 u130 u131 u132 u133 u134 u135 u136 u137 u138 u139 u140 u141 u142 u143 u144 u145 u146 u147 u148 u149 u150 u151 u152 u153 u154 u155 u156 u157 u158 u159 u160 u161 u162 u163 u164 u165 u166 u167 u168 u169 u170 u171 u172 u173 u174 u175 u176 u177 u178 u179 u180 u181 u182 u183 u184 u185 u186 u187 u188 u189 u190 u191 u192 u193 u194 u195 u196 u197 u198 u199 u200 u201 u202 u203 u204 u205 u206 u207 u208 u209 u210 u211 u212 u213 u214 u215 u216 u217 u218 u219 u220 u221 u222 u223 u224 u225 u226 u227 u228 u229 u230 u231 u232 u233 u234 u235 u236 u237 u238 u239 u240 u241 u242 u243 u244 u245 : Value) (h : LitN w wb E ib n.inv Pb L (er n.ok) m n.kind) (hbs : n.base = 2 ∨ n.base = 8 ∨ n.base = 10 ∨ n.base = 16) (hinv : n.inv < (Pb.length : Int)) (hsz : Pb.length ≤ 100000)
    (K : Act → World → Prop) (Q : Exit → Act → World → Prop) (hK : ∀ (ok2 : Bool) {u2' u3' u10' u11' u12' u13' u14' u15' u16' u17' u18' u19' u20' u21' u22' u23' u24' u25' u26' u27' u28' u29' u30' u31' u32' u33' u34' u35' u36' u37' u38' u39' u40' u41' u42' u43' u44' u45' u46' u47' u48' u49' u50' u51' u52' u53' u54' u55' u56' u57' u58' u59' u60' u61' u62' u63' u64' u65' u66' u67' u68' u69' u70' u71' u72' u73' u74' u75' u76' u77' u78' u79' u80' u81' u82' u83' u84' u85' u86' u87' u88' u89' u90' u91' u92' u93' u94' u95' u96' u97' u98' u99' u100' u101' u102' u103' u104' u105' u106' u107' u108' u109' u110' u111' u112' u113' u114' u115' u116' u117' u118' u119' u120' u121' u122' u123' u124' u125' u126' u127' u128' u129' u130' u131' u132' u133' u134' u135' u136' u137' u138' u139' u140' u141' u142' u143' u144' u145' u146' u147' u148' u149' u150' u151' u152' u153' u154' u155' u156' u157' u158' u159' u160' u161' u162' u163' u164' u165' u166' u167' u168' u169' u170' u171' u172' u173' u174' u175' u176' u177' u178' u179' u180' u181' u182' u183' u184' u185' u186' u187' u188' u189' u190' u191' u192' u193' u194' u195' u196' u197' u198' u199' u200' u201' u202' u203' u204' u205' u206' u207' u208' u209' u210' u211' u212' u213' u214' u215' u216' u217' u218' u219' u220' u221' u222' u223' u224' u225' u226' u227' u228' u229' u230' u231' u232' u233' u234' u235' u236' u237' u238' u239' u240' u241' u242' u243' u244' u245' : Value} (w' : World), ok2 = (n.ok && !(decide (n.kind = 0) && decide (0 ≤ n.inv))) → LitN w w' E ib n.inv Pb L (er ok2) m n.kind → K ⟨#[.pointer (some ⟨E.c.sb, 0, none⟩), .bool n.seen, u2', u3', .bool ok2, .int .u8 (n.kind : Int), .int .i64 (n.base : Int), .int .i32 (n.pre : Int), .int .i64 (dsv n.hd n.hs), .pointer (some ⟨ib, 0, none⟩), u10', u11', u12', u13', u14', u15', u16', u17', u18', u19', u20', u21', u22', u23', u24', u25', u26', u27', u28', u29', u30', u31', u32', u33', u34', u35', u36', u37', u38', u39', u40', u41', u42', u43', u44', u45', u46', u47', u48', u49', u50', u51', u52', u53', u54', u55', u56', u57', u58', u59', u60', u61', u62', u63', u64', u65', u66', u67', u68', u69', u70', u71', u72', u73', u74', u75', u76', u77', u78', u79', u80', u81', u82', u83', u84', u85', u86', u87', u88', u89', u90', u91', u92', u93', u94', u95', u96', u97', u98', u99', u100', u101', u102', u103', u104', u105', u106', u107', u108', u109', u110', u111', u112', u113', u114', u115', u116', u117', u118', u119', u120', u121', u122', u123', u124', u125', u126', u127', u128', u129', u130', u131', u132', u133', u134', u135', u136', u137', u138', u139', u140', u141', u142', u143', u144', u145', u146', u147', u148', u149', u150', u151', u152', u153', u154', u155', u156', u157', u158', u159', u160', u161', u162', u163', u164', u165', u166', u167', u168', u169', u170', u171', u172', u173', u174', u175', u176', u177', u178', u179', u180', u181', u182', u183', u184', u185', u186', u187', u188', u189', u190', u191', u192', u193', u194', u195', u196', u197', u198', u199', u200', u201', u202', u203', u204', u205', u206', u207', u208', u209', u210', u211', u212', u213', u214', u215', u216', u217', u218', u219', u220', u221', u222', u223', u224', u225', u226', u227', u228', u229', u230', u231', u232', u233', u234', u235', u236', u237', u238', u239', u240', u241', u242', u243', u244', u245'], []⟩ w') :
    Code.wp Tryd.prog (h64 12) (Exit.then K Q) ⟨#[.pointer (some ⟨E.c.sb, 0, none⟩), .bool n.seen, u2, u3, .bool n.ok, .int .u8 (n.kind : Int), .int .i64 (n.base : Int), .int .i32 (n.pre : Int), .int .i64 (dsv n.hd n.hs), .pointer (some ⟨ib, 0, none⟩), u10, u11, u12, u13, u14, u15, u16, u17, u18, u19, u20, u21, u22, u23, u24, u25, u26, u27, u28, u29, u30, u31, u32, u33, u34, u35, u36, u37, u38, u39, u40, u41, u42, u43, u44, u45, u46, u47, u48, u49, u50, u51, u52, u53, u54, u55, u56, u57, u58, u59, u60, u61, u62, u63, u64, u65, u66, u67, u68, u69, u70, u71, u72, u73, u74, u75, u76, u77, u78, u79, u80, u81, u82, u83, u84, u85, u86, u87, u88, u89, u90, u91, u92, u93, u94, u95, u96, u97, u98, u99, u100, u101, u102, u103, u104, u105, u106, u107, u108, u109, u110, u111, u112, u113, u114, u115, u116, u117, u118, u119, u120, u121, u122, u123, u124, u125, u126, u127, u128, u129, u130, u131, u132, u133, u134, u135, u136, u137, u138, u139, u140, u141, u142, u143, u144, u145, u146, u147, u148, u149, u150, u151, u152, u153, u154, u155, u156, u157, u158, u159, u160, u161, u162, u163, u164, u165, u166, u167, u168, u169, u170, u171, u172, u173, u174, u175, u176, u177, u178, u179, u180, u181, u182, u183, u184, u185, u186, u187, u188, u189, u190, u191, u192, u193, u194, u195, u196, u197, u198, u199, u200, u201, u202, u203, u204, u205, u206, u207, u208, u209, u210, u211, u212, u213, u214, u215, u216, u217, u218, u219, u220, u221, u222, u223, u224, u225, u226, u227, u228, u229, u230, u231, u232, u233, u234, u235, u236, u237, u238, u239, u240, u241, u242, u243, u244, u245], []⟩ wb := by
  have HN := Lib.hid h
  have HK := Lib.hid hK
  clear h hK
  obtain ⟨k, kind, base, pre, hd, hs, inv, ok, sn⟩ := n
  dsimp only
  conv => arg 2; whnf
  have cib := HN.out.num.c
  simp only at cib hbs hinv
  by_cases hk0 : kind = 0
  · subst hk0
    by_cases hi : 0 ≤ inv
    · have HI := Lib.hid hi
      have HI2 := Lib.hid hinv
      cases ok
      · clear hinv
        as_aux_lemma =>
          go_wp2_with fail
          exact HK.out false _ (by simp) HN.out
      · have c17 := HN.out.c17
        obtain ⟨lit, hlit⟩ : ∃ lit : ByteArray, lit = ⟨Pb.toArray⟩ := ⟨_, rfl⟩
        rw [← hlit] at c17
        have hlt : inv < (lit.size : Int) := by rw [hlit]; show inv < (Pb.toArray.size : Int); simpa using hinv
        have hsz2 : (lit.size : Int) ≤ 100000 := by rw [hlit]; show (Pb.toArray.size : Int) ≤ _; simp; omega
        have HLIT := Lib.hid hlit
        clear hlit hinv hsz
        as_aux_lemma =>
          go_wp2_with fail
          go_region_held3 (fun w' => w'.cell? ⟨ib, 0, none⟩ = some (.int .i64 inv) ∧ w'.cell? ⟨E.c.sb, 17, none⟩ = some (.string lit)) (first | exact ⟨cib, c17⟩ | exact ⟨d0, d17⟩ | exact ⟨((HN.out.num.new _).drewN 1).c, (((HN.out.num.gnew _).drewN 1).tail 17 (by omega)).trans c17⟩)
            (first | (go_at_call 95; refine (baseName_calls _ _ (by omega)).mono ?_; rintro en w5 ⟨⟨mm, rfl⟩, rfl⟩) | (go_at_call 79; refine (errorAtf_num E ib inv Pb L 0 m _ _ _ _ _ _ ((HN.out.num.new _).drewN 1) (by omega)).mono ?_; rintro en w4 ⟨rfl, hS4, hF4⟩; have hN4 := HN.out.gf hS4 (((HN.out.num.gnew _).drewN 1).trans hF4); have d0 := hN4.num.c; have d17 := hN4.c17; rw [← HLIT.out] at d17; have H4 := Lib.hid hN4; clear hN4 hS4 hF4))
          all_goals
            go_wp2_with fail
            exact HK.out false _ (by simp [HI.out]) H4.out
    · have HI := Lib.hid hi
      clear hinv
      cases ok
      all_goals as_aux_lemma =>
        go_wp2_with fail
        exact HK.out _ _ (by simp [HI.out]) HN.out
  · have tk : ((kind : Int) == 0) = false := by simp; omega
    have HK0 := Lib.hid hk0
    clear hk0 hinv
    cases ok
    all_goals as_aux_lemma =>
      go_wp2_with fail
      exact HK.out _ _ (by simp [HK0.out]) HN.out
end Go.Proofs.YtnehkpoggkfikaaDoor

namespace Go.Proofs.YtnehkpoggkfikaaDoor
open Go.RowKit
set_option linter.unusedVariables false

set_option maxRecDepth 1000000 in
set_option maxHeartbeats 8000000 in
theorem pcX (E : Env) (ib : Nat) (p0 : List UInt8) (l : List Nat) (m : Int) (w wb : World) (n : NS) (c : Nat) (t : List Nat) (u2 u3 u11 u12 u13 u14 u15 u16 u17 u18 u19 u20 u21 u22 u23 u24 u25 u26 u27 u28 u29 u30 u31 u32 u33 u34 u35 u36 u37 u38 u39 u40 u41 u42 u43 u44 u45 u46 u47 u48 u49 u50 u51 u52 u53 u54 u55 u56 u57 u58 u59 u60 u61 u62 u63 u64 u65 u66 u67 u68 u69 u70 u71 u72 u73 u74 u75 u76 u77 u78 u79 u80 u81 u82 u83 u84 u85 u86 u87 u88 u89 u90 u91 u92 u93 u94 u95 u96 u97 u98 u99 u100 u101 u102 u103 u104 u105 u106 u107 u108 u109 u110 u111 u112 u113 u114 u115 u116 u117 u118 u119 u120 u121 u122 u123 u124 u125 u126 u127 u128 u129 u130 u131 u132 u133 u134 u135 u136 u137 u138 u139 u140 u141 u142 u143 u144 u145 u146 u147 u148 u149 u150 u151 u152 u153 u154 u155 u156 u157 u158 u159 u160 u161 u162 u163 u164 u165 u166 u167 u168 u169 u170 u171 u172 u173 u174 u175 u176 u177 u178 u179 u180 u181 u182 u183 u184 u185 u186 u187 u188 u189 u190 u191 u192 u193 u194 u195 u196 u197 u198 u199 u200 u201 u202 u203 u204 u205 u206 u207 u208 u209 u210 u211 u212 u213 u214 u215 u216 u217 u218 u219 u220 u221 u222 u223 u224 u225 u226 u227 u228 u229 u230 u231 u232 u233 u234 u235 u236 u237 u238 u239 u240 u241 u242 u243 u244 u245 : Value) (h : NSt w wb E ib p0 l m n) (hl : l.drop n.k = c :: t) (hlc : low c = 101 ∨ low c = 112)
    (K : Act → World → Prop) (Q : Exit → Act → World → Prop) (hK : ∀ (n' : NS) {u2' u3' u10' u11' u12' u13' u14' u15' u16' u17' u18' u19' u20' u21' u22' u23' u24' u25' u26' u27' u28' u29' u30' u31' u32' u33' u34' u35' u36' u37' u38' u39' u40' u41' u42' u43' u44' u45' u46' u47' u48' u49' u50' u51' u52' u53' u54' u55' u56' u57' u58' u59' u60' u61' u62' u63' u64' u65' u66' u67' u68' u69' u70' u71' u72' u73' u74' u75' u76' u77' u78' u79' u80' u81' u82' u83' u84' u85' u86' u87' u88' u89' u90' u91' u92' u93' u94' u95' u96' u97' u98' u99' u100' u101' u102' u103' u104' u105' u106' u107' u108' u109' u110' u111' u112' u113' u114' u115' u116' u117' u118' u119' u120' u121' u122' u123' u124' u125' u126' u127' u128' u129' u130' u131' u132' u133' u134' u135' u136' u137' u138' u139' u140' u141' u142' u143' u144' u145' u146' u147' u148' u149' u150' u151' u152' u153' u154' u155' u156' u157' u158' u159' u160' u161' u162' u163' u164' u165' u166' u167' u168' u169' u170' u171' u172' u173' u174' u175' u176' u177' u178' u179' u180' u181' u182' u183' u184' u185' u186' u187' u188' u189' u190' u191' u192' u193' u194' u195' u196' u197' u198' u199' u200' u201' u202' u203' u204' u205' u206' u207' u208' u209' u210' u211' u212' u213' u214' u215' u216' u217' u218' u219' u220' u221' u222' u223' u224' u225' u226' u227' u228' u229' u230' u231' u232' u233' u234' u235' u236' u237' u238' u239' u240' u241' u242' u243' u244' u245' : Value} (w' : World), n' = nExpD p0.length l (nSign l (nLet l n)) → NSt w w' E ib p0 l m n' → K ⟨#[.pointer (some ⟨E.c.sb, 0, none⟩), .bool n'.seen, u2', u3', .bool n'.ok, .int .u8 (n'.kind : Int), .int .i64 (n'.base : Int), .int .i32 (n'.pre : Int), .int .i64 (dsv n'.hd n'.hs), .pointer (some ⟨ib, 0, none⟩), u10', u11', u12', u13', u14', u15', u16', u17', u18', u19', u20', u21', u22', u23', u24', u25', u26', u27', u28', u29', u30', u31', u32', u33', u34', u35', u36', u37', u38', u39', u40', u41', u42', u43', u44', u45', u46', u47', u48', u49', u50', u51', u52', u53', u54', u55', u56', u57', u58', u59', u60', u61', u62', u63', u64', u65', u66', u67', u68', u69', u70', u71', u72', u73', u74', u75', u76', u77', u78', u79', u80', u81', u82', u83', u84', u85', u86', u87', u88', u89', u90', u91', u92', u93', u94', u95', u96', u97', u98', u99', u100', u101', u102', u103', u104', u105', u106', u107', u108', u109', u110', u111', u112', u113', u114', u115', u116', u117', u118', u119', u120', u121', u122', u123', u124', u125', u126', u127', u128', u129', u130', u131', u132', u133', u134', u135', u136', u137', u138', u139', u140', u141', u142', u143', u144', u145', u146', u147', u148', u149', u150', u151', u152', u153', u154', u155', u156', u157', u158', u159', u160', u161', u162', u163', u164', u165', u166', u167', u168', u169', u170', u171', u172', u173', u174', u175', u176', u177', u178', u179', u180', u181', u182', u183', u184', u185', u186', u187', u188', u189', u190', u191', u192', u193', u194', u195', u196', u197', u198', u199', u200', u201', u202', u203', u204', u205', u206', u207', u208', u209', u210', u211', u212', u213', u214', u215', u216', u217', u218', u219', u220', u221', u222', u223', u224', u225', u226', u227', u228', u229', u230', u231', u232', u233', u234', u235', u236', u237', u238', u239', u240', u241', u242', u243', u244', u245'], []⟩ w') :
    Code.wp Tryd.prog x64 (Exit.then K Q) ⟨#[.pointer (some ⟨E.c.sb, 0, none⟩), .bool n.seen, u2, u3, .bool n.ok, .int .u8 (n.kind : Int), .int .i64 (n.base : Int), .int .i32 (n.pre : Int), .int .i64 (dsv n.hd n.hs), .pointer (some ⟨ib, 0, none⟩), .int .i32 (low c : Int), u11, u12, u13, u14, u15, u16, u17, u18, u19, u20, u21, u22, u23, u24, u25, u26, u27, u28, u29, u30, u31, u32, u33, u34, u35, u36, u37, u38, u39, u40, u41, u42, u43, u44, u45, u46, u47, u48, u49, u50, u51, u52, u53, u54, u55, u56, u57, u58, u59, u60, u61, u62, u63, u64, u65, u66, u67, u68, u69, u70, u71, u72, u73, u74, u75, u76, u77, u78, u79, u80, u81, u82, u83, u84, u85, u86, u87, u88, u89, u90, u91, u92, u93, u94, u95, u96, u97, u98, u99, u100, u101, u102, u103, u104, u105, u106, u107, u108, u109, u110, u111, u112, u113, u114, u115, u116, u117, u118, u119, u120, u121, u122, u123, u124, u125, u126, u127, u128, u129, u130, u131, u132, u133, u134, u135, u136, u137, u138, u139, u140, u141, u142, u143, u144, u145, u146, u147, u148, u149, u150, u151, u152, u153, u154, u155, u156, u157, u158, u159, u160, u161, u162, u163, u164, u165, u166, u167, u168, u169, u170, u171, u172, u173, u174, u175, u176, u177, u178, u179, u180, u181, u182, u183, u184, u185, u186, u187, u188, u189, u190, u191, u192, u193, u194, u195, u196, u197, u198, u199, u200, u201, u202, u203, u204, u205, u206, u207, u208, u209, u210, u211, u212, u213, u214, u215, u216, u217, u218, u219, u220, u221, u222, u223, u224, u225, u226, u227, u228, u229, u230, u231, u232, u233, u234, u235, u236, u237, u238, u239, u240, u241, u242, u243, u244, u245], []⟩ wb := by
  have hc : c < 128 := low_128 c (by omega)
  have h10 : c ≠ 10 := by
    intro e; subst e
    have : low 10 = 42 := by decide +kernel
    omega
  rw [x64_0]
  refine wp_seq (pcD1 E ib p0 l m w wb n (low c) _ _ _ _ _ _ _ _ _ _ _ _ _ _ _ _ _ _ _ _ _ _ _ _ _ _ _ _ _ _ _ _ _ _ _ _ _ _ _ _ _ _ _ _ _ _ _ _ _ _ _ _ _ _ _ _ _ _ _ _ _ _ _ _ _ _ _ _ _ _ _ _ _ _ _ _ _ _ _ _ _ _ _ _ _ _ _ _ _ _ _ _ _ _ _ _ _ _ _ _ _ _ _ _ _ _ _ _ _ _ _ _ _ _ _ _ _ _ _ _ _ _ _ _ _ _ _ _ _ _ _ _ _ _ _ _ _ _ _ _ _ _ _ _ _ _ _ _ _ _ _ _ _ _ _ _ _ _ _ _ _ _ _ _ _ _ _ _ _ _ _ _ _ _ _ _ _ _ _ _ _ _ _ _ _ _ _ _ _ _ _ _ _ _ _ _ _ _ _ _ _ _ _ _ _ _ _ _ _ _ _ _ _ _ _ _ _ _ _ _ _ _ _ _ _ _ _ _ _ _ _ _ _ _ _ _ _ h hlc _ _ ?_)
  intro n1; intros; rename_i w1 e1 h1
  rw [x64_1]
  refine wp_seq (pcD2 E ib p0 l m w w1 n1 c t _ _ _ _ _ _ _ _ _ _ _ _ _ _ _ _ _ _ _ _ _ _ _ _ _ _ _ _ _ _ _ _ _ _ _ _ _ _ _ _ _ _ _ _ _ _ _ _ _ _ _ _ _ _ _ _ _ _ _ _ _ _ _ _ _ _ _ _ _ _ _ _ _ _ _ _ _ _ _ _ _ _ _ _ _ _ _ _ _ _ _ _ _ _ _ _ _ _ _ _ _ _ _ _ _ _ _ _ _ _ _ _ _ _ _ _ _ _ _ _ _ _ _ _ _ _ _ _ _ _ _ _ _ _ _ _ _ _ _ _ _ _ _ _ _ _ _ _ _ _ _ _ _ _ _ _ _ _ _ _ _ _ _ _ _ _ _ _ _ _ _ _ _ _ _ _ _ _ _ _ _ _ _ _ _ _ _ _ _ _ _ _ _ _ _ _ _ _ _ _ _ _ _ _ _ _ _ _ _ _ _ _ _ _ _ _ _ _ _ _ _ _ _ _ _ _ _ _ _ _ _ _ _ _ _ _ _ _ h1 (by rw [e1]; exact hl) hc h10 _ _ ?_)
  intro n2; intros; rename_i w2 e2 h2
  rw [x64_2]
  refine wp_seq (pcD2b E ib p0 l m w w2 n2 _ _ _ _ _ _ _ _ _ _ _ _ _ _ _ _ _ _ _ _ _ _ _ _ _ _ _ _ _ _ _ _ _ _ _ _ _ _ _ _ _ _ _ _ _ _ _ _ _ _ _ _ _ _ _ _ _ _ _ _ _ _ _ _ _ _ _ _ _ _ _ _ _ _ _ _ _ _ _ _ _ _ _ _ _ _ _ _ _ _ _ _ _ _ _ _ _ _ _ _ _ _ _ _ _ _ _ _ _ _ _ _ _ _ _ _ _ _ _ _ _ _ _ _ _ _ _ _ _ _ _ _ _ _ _ _ _ _ _ _ _ _ _ _ _ _ _ _ _ _ _ _ _ _ _ _ _ _ _ _ _ _ _ _ _ _ _ _ _ _ _ _ _ _ _ _ _ _ _ _ _ _ _ _ _ _ _ _ _ _ _ _ _ _ _ _ _ _ _ _ _ _ _ _ _ _ _ _ _ _ _ _ _ _ _ _ _ _ _ _ _ _ _ _ _ _ _ _ _ _ _ _ _ _ _ _ _ _ h2 _ _ ?_)
  intro n3; intros; rename_i w3 e3 h3
  rw [x64_3]
  refine wp_seq (pcD3 E ib p0 l m w w3 n3 _ _ _ _ _ _ _ _ _ _ _ _ _ _ _ _ _ _ _ _ _ _ _ _ _ _ _ _ _ _ _ _ _ _ _ _ _ _ _ _ _ _ _ _ _ _ _ _ _ _ _ _ _ _ _ _ _ _ _ _ _ _ _ _ _ _ _ _ _ _ _ _ _ _ _ _ _ _ _ _ _ _ _ _ _ _ _ _ _ _ _ _ _ _ _ _ _ _ _ _ _ _ _ _ _ _ _ _ _ _ _ _ _ _ _ _ _ _ _ _ _ _ _ _ _ _ _ _ _ _ _ _ _ _ _ _ _ _ _ _ _ _ _ _ _ _ _ _ _ _ _ _ _ _ _ _ _ _ _ _ _ _ _ _ _ _ _ _ _ _ _ _ _ _ _ _ _ _ _ _ _ _ _ _ _ _ _ _ _ _ _ _ _ _ _ _ _ _ _ _ _ _ _ _ _ _ _ _ _ _ _ _ _ _ _ _ _ _ _ _ _ _ _ _ _ _ _ _ _ _ _ _ _ _ _ _ _ _ h3 _ _ ?_)
  intro n4; intros; rename_i w4 e4 h4
  rw [x64_4]
  refine wp_seq (pcD4 E ib p0 l m w w4 n4 _ _ _ _ _ _ _ _ _ _ _ _ _ _ _ _ _ _ _ _ _ _ _ _ _ _ _ _ _ _ _ _ _ _ _ _ _ _ _ _ _ _ _ _ _ _ _ _ _ _ _ _ _ _ _ _ _ _ _ _ _ _ _ _ _ _ _ _ _ _ _ _ _ _ _ _ _ _ _ _ _ _ _ _ _ _ _ _ _ _ _ _ _ _ _ _ _ _ _ _ _ _ _ _ _ _ _ _ _ _ _ _ _ _ _ _ _ _ _ _ _ _ _ _ _ _ _ _ _ _ _ _ _ _ _ _ _ _ _ _ _ _ _ _ _ _ _ _ _ _ _ _ _ _ _ _ _ _ _ _ _ _ _ _ _ _ _ _ _ _ _ _ _ _ _ _ _ _ _ _ _ _ _ _ _ _ _ _ _ _ _ _ _ _ _ _ _ _ _ _ _ _ _ _ _ _ _ _ _ _ _ _ _ _ _ _ _ _ _ _ _ _ _ _ _ _ _ _ _ _ _ _ _ _ _ _ _ _ h4 _ _ ?_)
  intro n5; intros; rename_i w5 e5 h5
  refine pcD5 E ib p0 l m w w5 n5 _ _ _ _ _ _ _ _ _ _ _ _ _ _ _ _ _ _ _ _ _ _ _ _ _ _ _ _ _ _ _ _ _ _ _ _ _ _ _ _ _ _ _ _ _ _ _ _ _ _ _ _ _ _ _ _ _ _ _ _ _ _ _ _ _ _ _ _ _ _ _ _ _ _ _ _ _ _ _ _ _ _ _ _ _ _ _ _ _ _ _ _ _ _ _ _ _ _ _ _ _ _ _ _ _ _ _ _ _ _ _ _ _ _ _ _ _ _ _ _ _ _ _ _ _ _ _ _ _ _ _ _ _ _ _ _ _ _ _ _ _ _ _ _ _ _ _ _ _ _ _ _ _ _ _ _ _ _ _ _ _ _ _ _ _ _ _ _ _ _ _ _ _ _ _ _ _ _ _ _ _ _ _ _ _ _ _ _ _ _ _ _ _ _ _ _ _ _ _ _ _ _ _ _ _ _ _ _ _ _ _ _ _ _ _ _ _ _ _ _ _ _ _ _ _ _ _ _ _ _ _ _ _ _ _ _ _ _ h5 K Q ?_
  intro n6; intros; rename_i w6 e6 h6
  have e7 : n3 = nLet l n := by
    rw [e3, e2, e1]; unfold nLet; rw [hl]
  exact hK n6 w6 (by rw [← e7, ← e4, e6, e5]; rfl) h6

set_option maxRecDepth 1000000 in
set_option maxHeartbeats 16000000 in
theorem pc9 (E : Env) (ib : Nat) (p0 : List UInt8) (l : List Nat) (m : Int) (w wb : World) (n : NS) (u2 u3 u10 u11 u12 u13 u14 u15 u16 u17 u18 u19 u20 u21 u22 u23 u24 u25 u26 u27 u28 u29 u30 u31 u32 u33 u34 u35 u36 u37 u38 u39 u40 u41 u42 u43 u44 u45 u46 u47 u48 u49 u50 u51 u52 u53 u54 u55 u56 u57 u58 u59 u60 u61 u62 u63 u64 u65 u66 u67 u68 u69 u70 u71 u72 u73 u74 u75 u76 u77 u78 u79 u80 u81 u82 u83 u84 u85 u86 u87 u88 u89 u90 u91 u92 u93 u94 u95 u96 u97 u98 u99 u100 u101 u102 u103 u104 u105 u106 u107 u108 u109 u110 u111 u112 u113 u114 u115 u116 u117 u118 u119 u120 u121 u122 u123 u124 u125 u126 u127 u128 u129 u130 u131 u132 u133 u134 u135 u136 u137 u138 u139 u140 u141 u142 u143 u144 u145 u146 u147 u148 u149 u150 u151 u152 u153 u154 u155 u156 u157 u158 u159 u160 u161 u162 u163 u164 u165 u166 u167 u168 u169 u170 u171 u172 u173 u174 u175 u176 u177 u178 u179 u180 u181 u182 u183 u184 u185 u186 u187 u188 u189 u190 u191 u192 u193 u194 u195 u196 u197 u198 u199 u200 u201 u202 u203 u204 u205 u206 u207 u208 u209 u210 u211 u212 u213 u214 u215 u216 u217 u218 u219 u220 u221 u222 u223 u224 u225 u226 u227 u228 u229 u230 u231 u232 u233 u234 u235 u236 u237 u238 u239 u240 u241 u242 u243 u244 u245 : Value) (h : NSt w wb E ib p0 l m n) (hL : ∀ c ∈ l, c < 1114112)
    (K : Act → World → Prop) (Q : Exit → Act → World → Prop) (hK : ∀ (n' : NS) {u2' u3' u10' u11' u12' u13' u14' u15' u16' u17' u18' u19' u20' u21' u22' u23' u24' u25' u26' u27' u28' u29' u30' u31' u32' u33' u34' u35' u36' u37' u38' u39' u40' u41' u42' u43' u44' u45' u46' u47' u48' u49' u50' u51' u52' u53' u54' u55' u56' u57' u58' u59' u60' u61' u62' u63' u64' u65' u66' u67' u68' u69' u70' u71' u72' u73' u74' u75' u76' u77' u78' u79' u80' u81' u82' u83' u84' u85' u86' u87' u88' u89' u90' u91' u92' u93' u94' u95' u96' u97' u98' u99' u100' u101' u102' u103' u104' u105' u106' u107' u108' u109' u110' u111' u112' u113' u114' u115' u116' u117' u118' u119' u120' u121' u122' u123' u124' u125' u126' u127' u128' u129' u130' u131' u132' u133' u134' u135' u136' u137' u138' u139' u140' u141' u142' u143' u144' u145' u146' u147' u148' u149' u150' u151' u152' u153' u154' u155' u156' u157' u158' u159' u160' u161' u162' u163' u164' u165' u166' u167' u168' u169' u170' u171' u172' u173' u174' u175' u176' u177' u178' u179' u180' u181' u182' u183' u184' u185' u186' u187' u188' u189' u190' u191' u192' u193' u194' u195' u196' u197' u198' u199' u200' u201' u202' u203' u204' u205' u206' u207' u208' u209' u210' u211' u212' u213' u214' u215' u216' u217' u218' u219' u220' u221' u222' u223' u224' u225' u226' u227' u228' u229' u230' u231' u232' u233' u234' u235' u236' u237' u238' u239' u240' u241' u242' u243' u244' u245' : Value} (w' : World), n' = nExp p0.length l n → NSt w w' E ib p0 l m n' → K ⟨#[.pointer (some ⟨E.c.sb, 0, none⟩), .bool n'.seen, u2', u3', .bool n'.ok, .int .u8 (n'.kind : Int), .int .i64 (n'.base : Int), .int .i32 (n'.pre : Int), .int .i64 (dsv n'.hd n'.hs), .pointer (some ⟨ib, 0, none⟩), u10', u11', u12', u13', u14', u15', u16', u17', u18', u19', u20', u21', u22', u23', u24', u25', u26', u27', u28', u29', u30', u31', u32', u33', u34', u35', u36', u37', u38', u39', u40', u41', u42', u43', u44', u45', u46', u47', u48', u49', u50', u51', u52', u53', u54', u55', u56', u57', u58', u59', u60', u61', u62', u63', u64', u65', u66', u67', u68', u69', u70', u71', u72', u73', u74', u75', u76', u77', u78', u79', u80', u81', u82', u83', u84', u85', u86', u87', u88', u89', u90', u91', u92', u93', u94', u95', u96', u97', u98', u99', u100', u101', u102', u103', u104', u105', u106', u107', u108', u109', u110', u111', u112', u113', u114', u115', u116', u117', u118', u119', u120', u121', u122', u123', u124', u125', u126', u127', u128', u129', u130', u131', u132', u133', u134', u135', u136', u137', u138', u139', u140', u141', u142', u143', u144', u145', u146', u147', u148', u149', u150', u151', u152', u153', u154', u155', u156', u157', u158', u159', u160', u161', u162', u163', u164', u165', u166', u167', u168', u169', u170', u171', u172', u173', u174', u175', u176', u177', u178', u179', u180', u181', u182', u183', u184', u185', u186', u187', u188', u189', u190', u191', u192', u193', u194', u195', u196', u197', u198', u199', u200', u201', u202', u203', u204', u205', u206', u207', u208', u209', u210', u211', u212', u213', u214', u215', u216', u217', u218', u219', u220', u221', u222', u223', u224', u225', u226', u227', u228', u229', u230', u231', u232', u233', u234', u235', u236', u237', u238', u239', u240', u241', u242', u243', u244', u245'], []⟩ w') :
    Code.wp Tryd.prog (h64 9) (Exit.then K Q) ⟨#[.pointer (some ⟨E.c.sb, 0, none⟩), .bool n.seen, u2, u3, .bool n.ok, .int .u8 (n.kind : Int), .int .i64 (n.base : Int), .int .i32 (n.pre : Int), .int .i64 (dsv n.hd n.hs), .pointer (some ⟨ib, 0, none⟩), u10, u11, u12, u13, u14, u15, u16, u17, u18, u19, u20, u21, u22, u23, u24, u25, u26, u27, u28, u29, u30, u31, u32, u33, u34, u35, u36, u37, u38, u39, u40, u41, u42, u43, u44, u45, u46, u47, u48, u49, u50, u51, u52, u53, u54, u55, u56, u57, u58, u59, u60, u61, u62, u63, u64, u65, u66, u67, u68, u69, u70, u71, u72, u73, u74, u75, u76, u77, u78, u79, u80, u81, u82, u83, u84, u85, u86, u87, u88, u89, u90, u91, u92, u93, u94, u95, u96, u97, u98, u99, u100, u101, u102, u103, u104, u105, u106, u107, u108, u109, u110, u111, u112, u113, u114, u115, u116, u117, u118, u119, u120, u121, u122, u123, u124, u125, u126, u127, u128, u129, u130, u131, u132, u133, u134, u135, u136, u137, u138, u139, u140, u141, u142, u143, u144, u145, u146, u147, u148, u149, u150, u151, u152, u153, u154, u155, u156, u157, u158, u159, u160, u161, u162, u163, u164, u165, u166, u167, u168, u169, u170, u171, u172, u173, u174, u175, u176, u177, u178, u179, u180, u181, u182, u183, u184, u185, u186, u187, u188, u189, u190, u191, u192, u193, u194, u195, u196, u197, u198, u199, u200, u201, u202, u203, u204, u205, u206, u207, u208, u209, u210, u211, u212, u213, u214, u215, u216, u217, u218, u219, u220, u221, u222, u223, u224, u225, u226, u227, u228, u229, u230, u231, u232, u233, u234, u235, u236, u237, u238, u239, u240, u241, u242, u243, u244, u245], []⟩ wb := by
  have HN := Lib.hid h
  have HK := Lib.hid hK
  clear h hK
  obtain ⟨k, kind, base, pre, hd, hs, inv, ok, sn⟩ := n
  dsimp only
  conv => arg 2; whnf
  have HL := Lib.hid hL
  clear hL
  have h9 := HN.out.ch
  simp only at h9
  have fin : ∀ (W : World), isExp l ⟨k, kind, base, pre, hd, hs, inv, ok, sn⟩ = false → nExp p0.length l ⟨k, kind, base, pre, hd, hs, inv, ok, sn⟩ = ⟨k, kind, base, pre, hd, hs, inv, ok && !(decide (pre = 120) && decide (kind = 1)), sn⟩ := by
    intro W h; unfold nExp; rw [if_neg (by rw [h]; decide)]
  have FIN := Lib.hid fin
  clear fin
  have hA := Lib.hid HN.out.at_
  cases hd' : l.drop k with
  | nil =>
    rw [hd'] at h9
    simp only [chOf] at h9
    have hne := Lib.hid (FIN.out wb (by unfold isExp; simp only; rw [hd']))
    clear hd' FIN
    by_cases hp : pre = 120
    · have tp : ((pre : Int) == 120) = true := by simp [hp]
      by_cases hk1 : kind = 1
      · have tk : ((kind : Int) == 1) = true := by simp [hk1]
        have HP := Lib.hid hp
        have HK1 := Lib.hid hk1
        clear hp hk1
        cases ok
        · as_aux_lemma =>
            go_wp2_with (go_at_call 93; refine (lower_end _).mono ?_; rintro en w3 ⟨rfl, rfl⟩; dsimp only)
            exact HK.out ⟨k, kind, base, pre, hd, hs, inv, false, sn⟩ _ (by rw [hne.out]; simp) HN.out
        · as_aux_lemma =>
            go_wp2_with (first | (go_at_call 93; refine (lower_end _).mono ?_; rintro en w3 ⟨rfl, rfl⟩; dsimp only) | (go_at_call 91; refine (errorf_num E ib inv _ _ 0 m _ _ _ _ _ hA.out (by omega)).mono ?_; rintro en w6 ⟨rfl, hS6, hF6⟩; have HS6 := Lib.hid hS6; have HF6 := Lib.hid (hF6); clear hS6 hF6; dsimp only))
            exact HK.out ⟨k, kind, base, pre, hd, hs, inv, false, sn⟩ _ (by rw [hne.out]; simp [HP.out, HK1.out]) (HN.out.same HS6.out HF6.out rfl HN.out.base HN.out.pre HN.out.kind)
      · have tk : ((kind : Int) == 1) = false := by simp; omega
        have HK1 := Lib.hid hk1
        clear hp hk1
        as_aux_lemma =>
          go_wp2_with (go_at_call 93; refine (lower_end _).mono ?_; rintro en w3 ⟨rfl, rfl⟩; dsimp only)
          exact HK.out ⟨k, kind, base, pre, hd, hs, inv, ok, sn⟩ _ (by rw [hne.out]; simp [HK1.out]) HN.out
    · have tp : ((pre : Int) == 120) = false := by simp; omega
      have HP := Lib.hid hp
      clear hp
      as_aux_lemma =>
        go_wp2_with (go_at_call 93; refine (lower_end _).mono ?_; rintro en w3 ⟨rfl, rfl⟩; dsimp only)
        exact HK.out ⟨k, kind, base, pre, hd, hs, inv, ok, sn⟩ _ (by rw [hne.out]; simp [HP.out]) HN.out
  | cons c t =>
    rw [hd'] at h9
    simp only [chOf] at h9
    have hcb : c < 2147483648 := by
      have := HL.out c (List.mem_of_mem_drop (by rw [hd']; simp : c ∈ l.drop k))
      omega
    by_cases hlc : low c = 101 ∨ low c = 112
    · have hEx : Hid (nExpD p0.length l (nSign l (nLet l ⟨k, kind, base, pre, hd, hs, inv, ok, sn⟩)) = nExp p0.length l ⟨k, kind, base, pre, hd, hs, inv, ok, sn⟩) := by
        show _ = _
        unfold nExp
        rw [if_pos]
        unfold isExp; simp only; rw [hd']; simpa using hlc
      have HD := Lib.hid hd'
      have HLC := Lib.hid hlc
      clear hd'
      rcases hlc with h1 | h1
      · have t1 : ((low c : Int) == 101) = true := by simp; omega
        clear h1
        as_aux_lemma =>
          go_upto_if 104 with (go_at_call 93; refine (lower_calls c _ (by omega)).mono ?_; rintro en w3 ⟨rfl, rfl⟩; dsimp only)
          go_step
          refine pcX E ib p0 l m w _ ⟨k, kind, base, pre, hd, hs, inv, ok, sn⟩ c t _ _ _ _ _ _ _ _ _ _ _ _ _ _ _ _ _ _ _ _ _ _ _ _ _ _ _ _ _ _ _ _ _ _ _ _ _ _ _ _ _ _ _ _ _ _ _ _ _ _ _ _ _ _ _ _ _ _ _ _ _ _ _ _ _ _ _ _ _ _ _ _ _ _ _ _ _ _ _ _ _ _ _ _ _ _ _ _ _ _ _ _ _ _ _ _ _ _ _ _ _ _ _ _ _ _ _ _ _ _ _ _ _ _ _ _ _ _ _ _ _ _ _ _ _ _ _ _ _ _ _ _ _ _ _ _ _ _ _ _ _ _ _ _ _ _ _ _ _ _ _ _ _ _ _ _ _ _ _ _ _ _ _ _ _ _ _ _ _ _ _ _ _ _ _ _ _ _ _ _ _ _ _ _ _ _ _ _ _ _ _ _ _ _ _ _ _ _ _ _ _ _ _ _ _ _ _ _ _ _ _ _ _ _ _ _ _ _ _ _ _ _ _ _ _ _ _ _ _ _ _ _ _ _ _ _ _ HN.out HD.out HLC.out K Q ?_
          intro n'; intros; rename_i w' e h'
          exact HK.out n' _ (e.trans hEx.out) h'
      · have t1 : ((low c : Int) == 101) = false := by simp; omega
        have t2 : ((low c : Int) == 112) = true := by simp; omega
        clear h1
        as_aux_lemma =>
          go_upto_if 104 with (go_at_call 93; refine (lower_calls c _ (by omega)).mono ?_; rintro en w3 ⟨rfl, rfl⟩; dsimp only)
          go_step
          refine pcX E ib p0 l m w _ ⟨k, kind, base, pre, hd, hs, inv, ok, sn⟩ c t _ _ _ _ _ _ _ _ _ _ _ _ _ _ _ _ _ _ _ _ _ _ _ _ _ _ _ _ _ _ _ _ _ _ _ _ _ _ _ _ _ _ _ _ _ _ _ _ _ _ _ _ _ _ _ _ _ _ _ _ _ _ _ _ _ _ _ _ _ _ _ _ _ _ _ _ _ _ _ _ _ _ _ _ _ _ _ _ _ _ _ _ _ _ _ _ _ _ _ _ _ _ _ _ _ _ _ _ _ _ _ _ _ _ _ _ _ _ _ _ _ _ _ _ _ _ _ _ _ _ _ _ _ _ _ _ _ _ _ _ _ _ _ _ _ _ _ _ _ _ _ _ _ _ _ _ _ _ _ _ _ _ _ _ _ _ _ _ _ _ _ _ _ _ _ _ _ _ _ _ _ _ _ _ _ _ _ _ _ _ _ _ _ _ _ _ _ _ _ _ _ _ _ _ _ _ _ _ _ _ _ _ _ _ _ _ _ _ _ _ _ _ _ _ _ _ _ _ _ _ _ _ _ _ _ _ _ HN.out HD.out HLC.out K Q ?_
          intro n'; intros; rename_i w' e h'
          exact HK.out n' _ (e.trans hEx.out) h'
    · have t1 : ((low c : Int) == 101) = false := by simp; omega
      have t2 : ((low c : Int) == 112) = false := by simp; omega
      have hne := Lib.hid (FIN.out wb (by unfold isExp; simp only; rw [hd']; simpa using hlc))
      clear hd' FIN hlc
      by_cases hp : pre = 120
      · have tp : ((pre : Int) == 120) = true := by simp [hp]
        by_cases hk1 : kind = 1
        · have tk : ((kind : Int) == 1) = true := by simp [hk1]
          have HP := Lib.hid hp
          have HK1 := Lib.hid hk1
          clear hp hk1
          cases ok
          · as_aux_lemma =>
              go_wp2_with (go_at_call 93; refine (lower_calls c _ (by omega)).mono ?_; rintro en w3 ⟨rfl, rfl⟩; dsimp only)
              exact HK.out ⟨k, kind, base, pre, hd, hs, inv, false, sn⟩ _ (by rw [hne.out]; simp) HN.out
          · as_aux_lemma =>
              go_wp2_with (first | (go_at_call 93; refine (lower_calls c _ (by omega)).mono ?_; rintro en w3 ⟨rfl, rfl⟩; dsimp only) | (go_at_call 91; refine (errorf_num E ib inv _ _ 0 m _ _ _ _ _ hA.out (by omega)).mono ?_; rintro en w6 ⟨rfl, hS6, hF6⟩; have HS6 := Lib.hid hS6; have HF6 := Lib.hid (hF6); clear hS6 hF6; dsimp only))
              exact HK.out ⟨k, kind, base, pre, hd, hs, inv, false, sn⟩ _ (by rw [hne.out]; simp [HP.out, HK1.out]) (HN.out.same HS6.out HF6.out rfl HN.out.base HN.out.pre HN.out.kind)
        · have tk : ((kind : Int) == 1) = false := by simp; omega
          have HK1 := Lib.hid hk1
          clear hp hk1
          as_aux_lemma =>
            go_wp2_with (go_at_call 93; refine (lower_calls c _ (by omega)).mono ?_; rintro en w3 ⟨rfl, rfl⟩; dsimp only)
            exact HK.out ⟨k, kind, base, pre, hd, hs, inv, ok, sn⟩ _ (by rw [hne.out]; simp [HK1.out]) HN.out
      · have tp : ((pre : Int) == 120) = false := by simp; omega
        have HP := Lib.hid hp
        clear hp
        as_aux_lemma =>
          go_wp2_with (go_at_call 93; refine (lower_calls c _ (by omega)).mono ?_; rintro en w3 ⟨rfl, rfl⟩; dsimp only)
          exact HK.out ⟨k, kind, base, pre, hd, hs, inv, ok, sn⟩ _ (by rw [hne.out]; simp [HP.out]) HN.out
end Go.Proofs.YtnehkpoggkfikaaDoor

namespace Go.Proofs.YtnehkpoggkfikaaDoor
open Go.RowKit
set_option linter.unusedVariables false

set_option maxRecDepth 1000000 in
set_option maxHeartbeats 4000000 in
theorem tl12 (E : Env) (ib : Nat) (Pb : List UInt8) (L : List Nat) (m : Int) (w wb : World) (n : NS) (u2 u3 u10 u11 u12 u13 u14 u15 u16 u17 u18 u19 u20 u21 u22 u23 u24 u25 u26 u27 u28 u29 u30 u31 u32 u33 u34 u35 u36 u37 u38 u39 u40 u41 u42 u43 u44 u45 u46 u47 u48 u49 u50 u51 u52 u53 u54 u55 u56 u57 u58 u59 u60 u61 u62 u63 u64 u65 u66 u67 u68 u69 u70 u71 u72 u73 u74 u75 u76 u77 u78 u79 u80 u81 u82 u83 u84 u85 u86 u87 u88 u89 u90 u91 u92 u93 u94 u95 u96 u97 u98 u99 u100 u101 u102 u103 u104 u105 u106 u107 u108 u109 u110 u111 u112 u113 u114 u115 u116 u117 u118 u119 u120 u121 u122 u123 u124 u125 u126 u127 u128 u129 u130 u131 u132 u133 u134 u135 u136 u137 u138 u139 u140 u141 u142 u143 u144 u145 u146 u147 u148 u149 u150 u151 u152 u153 u154 u155 u156 u157 u158 u159 u160 u161 u162 u163 u164 u165 u166 u167 u168 u169 u170 u171 u172 u173 u174 u175 u176 u177 u178 u179 u180 u181 u182 u183 u184 u185 u186 u187 u188 u189 u190 u191 u192 u193 u194 u195 u196 u197 u198 u199 u200 u201 u202 u203 u204 u205 u206 u207 u208 u209 u210 u211 u212 u213 u214 u215 u216 u217 u218 u219 u220 u221 u222 u223 u224 u225 u226 u227 u228 u229 u230 u231 u232 u233 u234 u235 u236 u237 u238 u239 u240 u241 u242 u243 u244 u245 : Value) (h : LitN w wb E ib n.inv Pb L (er n.ok) m n.kind) (hbs : n.base = 2 ∨ n.base = 8 ∨ n.base = 10 ∨ n.base = 16) (hinv : n.inv < (Pb.length : Int)) (hsz : Pb.length ≤ 100000) :
    Code.wp Tryd.prog (t64 12) (bodyPost Tryd.prog Tryd.f64 (NumEnd2 E Pb L n.kind (n.ok && !(decide (n.kind = 0) && decide (0 ≤ n.inv))) n.hs w)) ⟨#[.pointer (some ⟨E.c.sb, 0, none⟩), .bool n.seen, u2, u3, .bool n.ok, .int .u8 (n.kind : Int), .int .i64 (n.base : Int), .int .i32 (n.pre : Int), .int .i64 (dsv n.hd n.hs), .pointer (some ⟨ib, 0, none⟩), u10, u11, u12, u13, u14, u15, u16, u17, u18, u19, u20, u21, u22, u23, u24, u25, u26, u27, u28, u29, u30, u31, u32, u33, u34, u35, u36, u37, u38, u39, u40, u41, u42, u43, u44, u45, u46, u47, u48, u49, u50, u51, u52, u53, u54, u55, u56, u57, u58, u59, u60, u61, u62, u63, u64, u65, u66, u67, u68, u69, u70, u71, u72, u73, u74, u75, u76, u77, u78, u79, u80, u81, u82, u83, u84, u85, u86, u87, u88, u89, u90, u91, u92, u93, u94, u95, u96, u97, u98, u99, u100, u101, u102, u103, u104, u105, u106, u107, u108, u109, u110, u111, u112, u113, u114, u115, u116, u117, u118, u119, u120, u121, u122, u123, u124, u125, u126, u127, u128, u129, u130, u131, u132, u133, u134, u135, u136, u137, u138, u139, u140, u141, u142, u143, u144, u145, u146, u147, u148, u149, u150, u151, u152, u153, u154, u155, u156, u157, u158, u159, u160, u161, u162, u163, u164, u165, u166, u167, u168, u169, u170, u171, u172, u173, u174, u175, u176, u177, u178, u179, u180, u181, u182, u183, u184, u185, u186, u187, u188, u189, u190, u191, u192, u193, u194, u195, u196, u197, u198, u199, u200, u201, u202, u203, u204, u205, u206, u207, u208, u209, u210, u211, u212, u213, u214, u215, u216, u217, u218, u219, u220, u221, u222, u223, u224, u225, u226, u227, u228, u229, u230, u231, u232, u233, u234, u235, u236, u237, u238, u239, u240, u241, u242, u243, u244, u245], []⟩ wb := by
  rw [t64_12]
  refine wp_seq (pc12 E ib Pb L m w wb n _ _ _ _ _ _ _ _ _ _ _ _ _ _ _ _ _ _ _ _ _ _ _ _ _ _ _ _ _ _ _ _ _ _ _ _ _ _ _ _ _ _ _ _ _ _ _ _ _ _ _ _ _ _ _ _ _ _ _ _ _ _ _ _ _ _ _ _ _ _ _ _ _ _ _ _ _ _ _ _ _ _ _ _ _ _ _ _ _ _ _ _ _ _ _ _ _ _ _ _ _ _ _ _ _ _ _ _ _ _ _ _ _ _ _ _ _ _ _ _ _ _ _ _ _ _ _ _ _ _ _ _ _ _ _ _ _ _ _ _ _ _ _ _ _ _ _ _ _ _ _ _ _ _ _ _ _ _ _ _ _ _ _ _ _ _ _ _ _ _ _ _ _ _ _ _ _ _ _ _ _ _ _ _ _ _ _ _ _ _ _ _ _ _ _ _ _ _ _ _ _ _ _ _ _ _ _ _ _ _ _ _ _ _ _ _ _ _ _ _ _ _ _ _ _ _ _ _ _ _ _ _ _ _ _ _ _ _ h hbs hinv hsz _ _ ?_)
  intro ok2; intros; rename_i w' e h'
  rw [← e]
  exact tail13 E ib Pb L m w w' n.kind n.base n.pre n.hd n.hs n.inv ok2 n.seen _ _ _ _ _ _ _ _ _ _ _ _ _ _ _ _ _ _ _ _ _ _ _ _ _ _ _ _ _ _ _ _ _ _ _ _ _ _ _ _ _ _ _ _ _ _ _ _ _ _ _ _ _ _ _ _ _ _ _ _ _ _ _ _ _ _ _ _ _ _ _ _ _ _ _ _ _ _ _ _ _ _ _ _ _ _ _ _ _ _ _ _ _ _ _ _ _ _ _ _ _ _ _ _ _ _ _ _ _ _ _ _ _ _ _ _ _ _ _ _ _ _ _ _ _ _ _ _ _ _ _ _ _ _ _ _ _ _ _ _ _ _ _ _ _ _ _ _ _ _ _ _ _ _ _ _ _ _ _ _ _ _ _ _ _ _ _ _ _ _ _ _ _ _ _ _ _ _ _ _ _ _ _ _ _ _ _ _ _ _ _ _ _ _ _ _ _ _ _ _ _ _ _ _ _ _ _ _ _ _ _ _ _ _ _ _ _ _ _ _ _ _ _ _ _ _ _ _ _ _ _ _ _ _ _ _ _ _ h' hsz

set_option maxRecDepth 1000000 in
set_option maxHeartbeats 4000000 in
theorem tl11 (E : Env) (ib : Nat) (p0 : List UInt8) (l : List Nat) (m : Int) (w wb : World) (n : NS) (u2 u3 u10 u11 u12 u13 u14 u15 u16 u17 u18 u19 u20 u21 u22 u23 u24 u25 u26 u27 u28 u29 u30 u31 u32 u33 u34 u35 u36 u37 u38 u39 u40 u41 u42 u43 u44 u45 u46 u47 u48 u49 u50 u51 u52 u53 u54 u55 u56 u57 u58 u59 u60 u61 u62 u63 u64 u65 u66 u67 u68 u69 u70 u71 u72 u73 u74 u75 u76 u77 u78 u79 u80 u81 u82 u83 u84 u85 u86 u87 u88 u89 u90 u91 u92 u93 u94 u95 u96 u97 u98 u99 u100 u101 u102 u103 u104 u105 u106 u107 u108 u109 u110 u111 u112 u113 u114 u115 u116 u117 u118 u119 u120 u121 u122 u123 u124 u125 u126 u127 u128 u129 u130 u131 u132 u133 u134 u135 u136 u137 u138 u139 u140 u141 u142 u143 u144 u145 u146 u147 u148 u149 u150 u151 u152 u153 u154 u155 u156 u157 u158 u159 u160 u161 u162 u163 u164 u165 u166 u167 u168 u169 u170 u171 u172 u173 u174 u175 u176 u177 u178 u179 u180 u181 u182 u183 u184 u185 u186 u187 u188 u189 u190 u191 u192 u193 u194 u195 u196 u197 u198 u199 u200 u201 u202 u203 u204 u205 u206 u207 u208 u209 u210 u211 u212 u213 u214 u215 u216 u217 u218 u219 u220 u221 u222 u223 u224 u225 u226 u227 u228 u229 u230 u231 u232 u233 u234 u235 u236 u237 u238 u239 u240 u241 u242 u243 u244 u245 : Value) (h : NSt w wb E ib p0 l m n) (hI : InvOk p0.length n) :
    Code.wp Tryd.prog (t64 11) (bodyPost Tryd.prog Tryd.f64 (NumRes E p0 l w (n))) ⟨#[.pointer (some ⟨E.c.sb, 0, none⟩), .bool n.seen, u2, u3, .bool n.ok, .int .u8 (n.kind : Int), .int .i64 (n.base : Int), .int .i32 (n.pre : Int), .int .i64 (dsv n.hd n.hs), .pointer (some ⟨ib, 0, none⟩), u10, u11, u12, u13, u14, u15, u16, u17, u18, u19, u20, u21, u22, u23, u24, u25, u26, u27, u28, u29, u30, u31, u32, u33, u34, u35, u36, u37, u38, u39, u40, u41, u42, u43, u44, u45, u46, u47, u48, u49, u50, u51, u52, u53, u54, u55, u56, u57, u58, u59, u60, u61, u62, u63, u64, u65, u66, u67, u68, u69, u70, u71, u72, u73, u74, u75, u76, u77, u78, u79, u80, u81, u82, u83, u84, u85, u86, u87, u88, u89, u90, u91, u92, u93, u94, u95, u96, u97, u98, u99, u100, u101, u102, u103, u104, u105, u106, u107, u108, u109, u110, u111, u112, u113, u114, u115, u116, u117, u118, u119, u120, u121, u122, u123, u124, u125, u126, u127, u128, u129, u130, u131, u132, u133, u134, u135, u136, u137, u138, u139, u140, u141, u142, u143, u144, u145, u146, u147, u148, u149, u150, u151, u152, u153, u154, u155, u156, u157, u158, u159, u160, u161, u162, u163, u164, u165, u166, u167, u168, u169, u170, u171, u172, u173, u174, u175, u176, u177, u178, u179, u180, u181, u182, u183, u184, u185, u186, u187, u188, u189, u190, u191, u192, u193, u194, u195, u196, u197, u198, u199, u200, u201, u202, u203, u204, u205, u206, u207, u208, u209, u210, u211, u212, u213, u214, u215, u216, u217, u218, u219, u220, u221, u222, u223, u224, u225, u226, u227, u228, u229, u230, u231, u232, u233, u234, u235, u236, u237, u238, u239, u240, u241, u242, u243, u244, u245], []⟩ wb := by
  rw [t64_11]
  refine wp_seq (pc11 E ib p0 l m w wb n _ _ _ _ _ _ _ _ _ _ _ _ _ _ _ _ _ _ _ _ _ _ _ _ _ _ _ _ _ _ _ _ _ _ _ _ _ _ _ _ _ _ _ _ _ _ _ _ _ _ _ _ _ _ _ _ _ _ _ _ _ _ _ _ _ _ _ _ _ _ _ _ _ _ _ _ _ _ _ _ _ _ _ _ _ _ _ _ _ _ _ _ _ _ _ _ _ _ _ _ _ _ _ _ _ _ _ _ _ _ _ _ _ _ _ _ _ _ _ _ _ _ _ _ _ _ _ _ _ _ _ _ _ _ _ _ _ _ _ _ _ _ _ _ _ _ _ _ _ _ _ _ _ _ _ _ _ _ _ _ _ _ _ _ _ _ _ _ _ _ _ _ _ _ _ _ _ _ _ _ _ _ _ _ _ _ _ _ _ _ _ _ _ _ _ _ _ _ _ _ _ _ _ _ _ _ _ _ _ _ _ _ _ _ _ _ _ _ _ _ _ _ _ _ _ _ _ _ _ _ _ _ _ _ _ _ _ _ h _ _ ?_)
  intro w'; intros; rename_i h'
  exact tl12 E ib _ _ m w w' n _ _ _ _ _ _ _ _ _ _ _ _ _ _ _ _ _ _ _ _ _ _ _ _ _ _ _ _ _ _ _ _ _ _ _ _ _ _ _ _ _ _ _ _ _ _ _ _ _ _ _ _ _ _ _ _ _ _ _ _ _ _ _ _ _ _ _ _ _ _ _ _ _ _ _ _ _ _ _ _ _ _ _ _ _ _ _ _ _ _ _ _ _ _ _ _ _ _ _ _ _ _ _ _ _ _ _ _ _ _ _ _ _ _ _ _ _ _ _ _ _ _ _ _ _ _ _ _ _ _ _ _ _ _ _ _ _ _ _ _ _ _ _ _ _ _ _ _ _ _ _ _ _ _ _ _ _ _ _ _ _ _ _ _ _ _ _ _ _ _ _ _ _ _ _ _ _ _ _ _ _ _ _ _ _ _ _ _ _ _ _ _ _ _ _ _ _ _ _ _ _ _ _ _ _ _ _ _ _ _ _ _ _ _ _ _ _ _ _ _ _ _ _ _ _ _ _ _ _ _ _ _ _ _ _ _ _ _ h' h.base (by have := h.len; unfold InvOk at hI; rw [this]; omega) h.small

set_option maxRecDepth 1000000 in
set_option maxHeartbeats 4000000 in
theorem tl10 (E : Env) (ib : Nat) (p0 : List UInt8) (l : List Nat) (m : Int) (w wb : World) (n : NS) (u2 u3 u10 u11 u12 u13 u14 u15 u16 u17 u18 u19 u20 u21 u22 u23 u24 u25 u26 u27 u28 u29 u30 u31 u32 u33 u34 u35 u36 u37 u38 u39 u40 u41 u42 u43 u44 u45 u46 u47 u48 u49 u50 u51 u52 u53 u54 u55 u56 u57 u58 u59 u60 u61 u62 u63 u64 u65 u66 u67 u68 u69 u70 u71 u72 u73 u74 u75 u76 u77 u78 u79 u80 u81 u82 u83 u84 u85 u86 u87 u88 u89 u90 u91 u92 u93 u94 u95 u96 u97 u98 u99 u100 u101 u102 u103 u104 u105 u106 u107 u108 u109 u110 u111 u112 u113 u114 u115 u116 u117 u118 u119 u120 u121 u122 u123 u124 u125 u126 u127 u128 u129 u130 u131 u132 u133 u134 u135 u136 u137 u138 u139 u140 u141 u142 u143 u144 u145 u146 u147 u148 u149 u150 u151 u152 u153 u154 u155 u156 u157 u158 u159 u160 u161 u162 u163 u164 u165 u166 u167 u168 u169 u170 u171 u172 u173 u174 u175 u176 u177 u178 u179 u180 u181 u182 u183 u184 u185 u186 u187 u188 u189 u190 u191 u192 u193 u194 u195 u196 u197 u198 u199 u200 u201 u202 u203 u204 u205 u206 u207 u208 u209 u210 u211 u212 u213 u214 u215 u216 u217 u218 u219 u220 u221 u222 u223 u224 u225 u226 u227 u228 u229 u230 u231 u232 u233 u234 u235 u236 u237 u238 u239 u240 u241 u242 u243 u244 u245 : Value) (h : NSt w wb E ib p0 l m n) (hI : InvOk p0.length n) :
    Code.wp Tryd.prog (t64 10) (bodyPost Tryd.prog Tryd.f64 (NumRes E p0 l w (nImag l n))) ⟨#[.pointer (some ⟨E.c.sb, 0, none⟩), .bool n.seen, u2, u3, .bool n.ok, .int .u8 (n.kind : Int), .int .i64 (n.base : Int), .int .i32 (n.pre : Int), .int .i64 (dsv n.hd n.hs), .pointer (some ⟨ib, 0, none⟩), u10, u11, u12, u13, u14, u15, u16, u17, u18, u19, u20, u21, u22, u23, u24, u25, u26, u27, u28, u29, u30, u31, u32, u33, u34, u35, u36, u37, u38, u39, u40, u41, u42, u43, u44, u45, u46, u47, u48, u49, u50, u51, u52, u53, u54, u55, u56, u57, u58, u59, u60, u61, u62, u63, u64, u65, u66, u67, u68, u69, u70, u71, u72, u73, u74, u75, u76, u77, u78, u79, u80, u81, u82, u83, u84, u85, u86, u87, u88, u89, u90, u91, u92, u93, u94, u95, u96, u97, u98, u99, u100, u101, u102, u103, u104, u105, u106, u107, u108, u109, u110, u111, u112, u113, u114, u115, u116, u117, u118, u119, u120, u121, u122, u123, u124, u125, u126, u127, u128, u129, u130, u131, u132, u133, u134, u135, u136, u137, u138, u139, u140, u141, u142, u143, u144, u145, u146, u147, u148, u149, u150, u151, u152, u153, u154, u155, u156, u157, u158, u159, u160, u161, u162, u163, u164, u165, u166, u167, u168, u169, u170, u171, u172, u173, u174, u175, u176, u177, u178, u179, u180, u181, u182, u183, u184, u185, u186, u187, u188, u189, u190, u191, u192, u193, u194, u195, u196, u197, u198, u199, u200, u201, u202, u203, u204, u205, u206, u207, u208, u209, u210, u211, u212, u213, u214, u215, u216, u217, u218, u219, u220, u221, u222, u223, u224, u225, u226, u227, u228, u229, u230, u231, u232, u233, u234, u235, u236, u237, u238, u239, u240, u241, u242, u243, u244, u245], []⟩ wb := by
  rw [t64_10]
  refine wp_seq (pc10 E ib p0 l m w wb n _ _ _ _ _ _ _ _ _ _ _ _ _ _ _ _ _ _ _ _ _ _ _ _ _ _ _ _ _ _ _ _ _ _ _ _ _ _ _ _ _ _ _ _ _ _ _ _ _ _ _ _ _ _ _ _ _ _ _ _ _ _ _ _ _ _ _ _ _ _ _ _ _ _ _ _ _ _ _ _ _ _ _ _ _ _ _ _ _ _ _ _ _ _ _ _ _ _ _ _ _ _ _ _ _ _ _ _ _ _ _ _ _ _ _ _ _ _ _ _ _ _ _ _ _ _ _ _ _ _ _ _ _ _ _ _ _ _ _ _ _ _ _ _ _ _ _ _ _ _ _ _ _ _ _ _ _ _ _ _ _ _ _ _ _ _ _ _ _ _ _ _ _ _ _ _ _ _ _ _ _ _ _ _ _ _ _ _ _ _ _ _ _ _ _ _ _ _ _ _ _ _ _ _ _ _ _ _ _ _ _ _ _ _ _ _ _ _ _ _ _ _ _ _ _ _ _ _ _ _ _ _ _ _ _ _ _ _ h _ _ ?_)
  intro n'; intros; rename_i w' e h'
  subst e
  exact tl11 E ib p0 l m w w' _ _ _ _ _ _ _ _ _ _ _ _ _ _ _ _ _ _ _ _ _ _ _ _ _ _ _ _ _ _ _ _ _ _ _ _ _ _ _ _ _ _ _ _ _ _ _ _ _ _ _ _ _ _ _ _ _ _ _ _ _ _ _ _ _ _ _ _ _ _ _ _ _ _ _ _ _ _ _ _ _ _ _ _ _ _ _ _ _ _ _ _ _ _ _ _ _ _ _ _ _ _ _ _ _ _ _ _ _ _ _ _ _ _ _ _ _ _ _ _ _ _ _ _ _ _ _ _ _ _ _ _ _ _ _ _ _ _ _ _ _ _ _ _ _ _ _ _ _ _ _ _ _ _ _ _ _ _ _ _ _ _ _ _ _ _ _ _ _ _ _ _ _ _ _ _ _ _ _ _ _ _ _ _ _ _ _ _ _ _ _ _ _ _ _ _ _ _ _ _ _ _ _ _ _ _ _ _ _ _ _ _ _ _ _ _ _ _ _ _ _ _ _ _ _ _ _ _ _ _ _ _ _ _ _ _ _ _ _ h' (nImag_invOk hI)

set_option maxRecDepth 1000000 in
set_option maxHeartbeats 4000000 in
theorem tl9 (E : Env) (ib : Nat) (p0 : List UInt8) (l : List Nat) (m : Int) (w wb : World) (n : NS) (u2 u3 u10 u11 u12 u13 u14 u15 u16 u17 u18 u19 u20 u21 u22 u23 u24 u25 u26 u27 u28 u29 u30 u31 u32 u33 u34 u35 u36 u37 u38 u39 u40 u41 u42 u43 u44 u45 u46 u47 u48 u49 u50 u51 u52 u53 u54 u55 u56 u57 u58 u59 u60 u61 u62 u63 u64 u65 u66 u67 u68 u69 u70 u71 u72 u73 u74 u75 u76 u77 u78 u79 u80 u81 u82 u83 u84 u85 u86 u87 u88 u89 u90 u91 u92 u93 u94 u95 u96 u97 u98 u99 u100 u101 u102 u103 u104 u105 u106 u107 u108 u109 u110 u111 u112 u113 u114 u115 u116 u117 u118 u119 u120 u121 u122 u123 u124 u125 u126 u127 u128 u129 u130 u131 u132 u133 u134 u135 u136 u137 u138 u139 u140 u141 u142 u143 u144 u145 u146 u147 u148 u149 u150 u151 u152 u153 u154 u155 u156 u157 u158 u159 u160 u161 u162 u163 u164 u165 u166 u167 u168 u169 u170 u171 u172 u173 u174 u175 u176 u177 u178 u179 u180 u181 u182 u183 u184 u185 u186 u187 u188 u189 u190 u191 u192 u193 u194 u195 u196 u197 u198 u199 u200 u201 u202 u203 u204 u205 u206 u207 u208 u209 u210 u211 u212 u213 u214 u215 u216 u217 u218 u219 u220 u221 u222 u223 u224 u225 u226 u227 u228 u229 u230 u231 u232 u233 u234 u235 u236 u237 u238 u239 u240 u241 u242 u243 u244 u245 : Value) (h : NSt w wb E ib p0 l m n) (hI : InvOk p0.length n) (hL : ∀ c ∈ l, c < 1114112) :
    Code.wp Tryd.prog (t64 9) (bodyPost Tryd.prog Tryd.f64 (NumRes E p0 l w (nImag l (nExp p0.length l n)))) ⟨#[.pointer (some ⟨E.c.sb, 0, none⟩), .bool n.seen, u2, u3, .bool n.ok, .int .u8 (n.kind : Int), .int .i64 (n.base : Int), .int .i32 (n.pre : Int), .int .i64 (dsv n.hd n.hs), .pointer (some ⟨ib, 0, none⟩), u10, u11, u12, u13, u14, u15, u16, u17, u18, u19, u20, u21, u22, u23, u24, u25, u26, u27, u28, u29, u30, u31, u32, u33, u34, u35, u36, u37, u38, u39, u40, u41, u42, u43, u44, u45, u46, u47, u48, u49, u50, u51, u52, u53, u54, u55, u56, u57, u58, u59, u60, u61, u62, u63, u64, u65, u66, u67, u68, u69, u70, u71, u72, u73, u74, u75, u76, u77, u78, u79, u80, u81, u82, u83, u84, u85, u86, u87, u88, u89, u90, u91, u92, u93, u94, u95, u96, u97, u98, u99, u100, u101, u102, u103, u104, u105, u106, u107, u108, u109, u110, u111, u112, u113, u114, u115, u116, u117, u118, u119, u120, u121, u122, u123, u124, u125, u126, u127, u128, u129, u130, u131, u132, u133, u134, u135, u136, u137, u138, u139, u140, u141, u142, u143, u144, u145, u146, u147, u148, u149, u150, u151, u152, u153, u154, u155, u156, u157, u158, u159, u160, u161, u162, u163, u164, u165, u166, u167, u168, u169, u170, u171, u172, u173, u174, u175, u176, u177, u178, u179, u180, u181, u182, u183, u184, u185, u186, u187, u188, u189, u190, u191, u192, u193, u194, u195, u196, u197, u198, u199, u200, u201, u202, u203, u204, u205, u206, u207, u208, u209, u210, u211, u212, u213, u214, u215, u216, u217, u218, u219, u220, u221, u222, u223, u224, u225, u226, u227, u228, u229, u230, u231, u232, u233, u234, u235, u236, u237, u238, u239, u240, u241, u242, u243, u244, u245], []⟩ wb := by
  rw [t64_9]
  refine wp_seq (pc9 E ib p0 l m w wb n _ _ _ _ _ _ _ _ _ _ _ _ _ _ _ _ _ _ _ _ _ _ _ _ _ _ _ _ _ _ _ _ _ _ _ _ _ _ _ _ _ _ _ _ _ _ _ _ _ _ _ _ _ _ _ _ _ _ _ _ _ _ _ _ _ _ _ _ _ _ _ _ _ _ _ _ _ _ _ _ _ _ _ _ _ _ _ _ _ _ _ _ _ _ _ _ _ _ _ _ _ _ _ _ _ _ _ _ _ _ _ _ _ _ _ _ _ _ _ _ _ _ _ _ _ _ _ _ _ _ _ _ _ _ _ _ _ _ _ _ _ _ _ _ _ _ _ _ _ _ _ _ _ _ _ _ _ _ _ _ _ _ _ _ _ _ _ _ _ _ _ _ _ _ _ _ _ _ _ _ _ _ _ _ _ _ _ _ _ _ _ _ _ _ _ _ _ _ _ _ _ _ _ _ _ _ _ _ _ _ _ _ _ _ _ _ _ _ _ _ _ _ _ _ _ _ _ _ _ _ _ _ _ _ _ _ _ _ h hL _ _ ?_)
  intro n'; intros; rename_i w' e h'
  subst e
  exact tl10 E ib p0 l m w w' _ _ _ _ _ _ _ _ _ _ _ _ _ _ _ _ _ _ _ _ _ _ _ _ _ _ _ _ _ _ _ _ _ _ _ _ _ _ _ _ _ _ _ _ _ _ _ _ _ _ _ _ _ _ _ _ _ _ _ _ _ _ _ _ _ _ _ _ _ _ _ _ _ _ _ _ _ _ _ _ _ _ _ _ _ _ _ _ _ _ _ _ _ _ _ _ _ _ _ _ _ _ _ _ _ _ _ _ _ _ _ _ _ _ _ _ _ _ _ _ _ _ _ _ _ _ _ _ _ _ _ _ _ _ _ _ _ _ _ _ _ _ _ _ _ _ _ _ _ _ _ _ _ _ _ _ _ _ _ _ _ _ _ _ _ _ _ _ _ _ _ _ _ _ _ _ _ _ _ _ _ _ _ _ _ _ _ _ _ _ _ _ _ _ _ _ _ _ _ _ _ _ _ _ _ _ _ _ _ _ _ _ _ _ _ _ _ _ _ _ _ _ _ _ _ _ _ _ _ _ _ _ _ _ _ _ _ _ _ h' (nExp_invOk hI)

set_option maxRecDepth 1000000 in
set_option maxHeartbeats 4000000 in
theorem tl8 (E : Env) (ib : Nat) (p0 : List UInt8) (l : List Nat) (m : Int) (w wb : World) (n : NS) (u2 u3 u10 u11 u12 u13 u14 u15 u16 u17 u18 u19 u20 u21 u22 u23 u24 u25 u26 u27 u28 u29 u30 u31 u32 u33 u34 u35 u36 u37 u38 u39 u40 u41 u42 u43 u44 u45 u46 u47 u48 u49 u50 u51 u52 u53 u54 u55 u56 u57 u58 u59 u60 u61 u62 u63 u64 u65 u66 u67 u68 u69 u70 u71 u72 u73 u74 u75 u76 u77 u78 u79 u80 u81 u82 u83 u84 u85 u86 u87 u88 u89 u90 u91 u92 u93 u94 u95 u96 u97 u98 u99 u100 u101 u102 u103 u104 u105 u106 u107 u108 u109 u110 u111 u112 u113 u114 u115 u116 u117 u118 u119 u120 u121 u122 u123 u124 u125 u126 u127 u128 u129 u130 u131 u132 u133 u134 u135 u136 u137 u138 u139 u140 u141 u142 u143 u144 u145 u146 u147 u148 u149 u150 u151 u152 u153 u154 u155 u156 u157 u158 u159 u160 u161 u162 u163 u164 u165 u166 u167 u168 u169 u170 u171 u172 u173 u174 u175 u176 u177 u178 u179 u180 u181 u182 u183 u184 u185 u186 u187 u188 u189 u190 u191 u192 u193 u194 u195 u196 u197 u198 u199 u200 u201 u202 u203 u204 u205 u206 u207 u208 u209 u210 u211 u212 u213 u214 u215 u216 u217 u218 u219 u220 u221 u222 u223 u224 u225 u226 u227 u228 u229 u230 u231 u232 u233 u234 u235 u236 u237 u238 u239 u240 u241 u242 u243 u244 u245 : Value) (h : NSt w wb E ib p0 l m n) (hI : InvOk p0.length n) (hL : ∀ c ∈ l, c < 1114112) :
    Code.wp Tryd.prog (t64 8) (bodyPost Tryd.prog Tryd.f64 (NumRes E p0 l w (nImag l (nExp p0.length l (nNo n))))) ⟨#[.pointer (some ⟨E.c.sb, 0, none⟩), .bool n.seen, u2, u3, .bool n.ok, .int .u8 (n.kind : Int), .int .i64 (n.base : Int), .int .i32 (n.pre : Int), .int .i64 (dsv n.hd n.hs), .pointer (some ⟨ib, 0, none⟩), u10, u11, u12, u13, u14, u15, u16, u17, u18, u19, u20, u21, u22, u23, u24, u25, u26, u27, u28, u29, u30, u31, u32, u33, u34, u35, u36, u37, u38, u39, u40, u41, u42, u43, u44, u45, u46, u47, u48, u49, u50, u51, u52, u53, u54, u55, u56, u57, u58, u59, u60, u61, u62, u63, u64, u65, u66, u67, u68, u69, u70, u71, u72, u73, u74, u75, u76, u77, u78, u79, u80, u81, u82, u83, u84, u85, u86, u87, u88, u89, u90, u91, u92, u93, u94, u95, u96, u97, u98, u99, u100, u101, u102, u103, u104, u105, u106, u107, u108, u109, u110, u111, u112, u113, u114, u115, u116, u117, u118, u119, u120, u121, u122, u123, u124, u125, u126, u127, u128, u129, u130, u131, u132, u133, u134, u135, u136, u137, u138, u139, u140, u141, u142, u143, u144, u145, u146, u147, u148, u149, u150, u151, u152, u153, u154, u155, u156, u157, u158, u159, u160, u161, u162, u163, u164, u165, u166, u167, u168, u169, u170, u171, u172, u173, u174, u175, u176, u177, u178, u179, u180, u181, u182, u183, u184, u185, u186, u187, u188, u189, u190, u191, u192, u193, u194, u195, u196, u197, u198, u199, u200, u201, u202, u203, u204, u205, u206, u207, u208, u209, u210, u211, u212, u213, u214, u215, u216, u217, u218, u219, u220, u221, u222, u223, u224, u225, u226, u227, u228, u229, u230, u231, u232, u233, u234, u235, u236, u237, u238, u239, u240, u241, u242, u243, u244, u245], []⟩ wb := by
  rw [t64_8]
  refine wp_seq (pc8 E ib p0 l m w wb n _ _ _ _ _ _ _ _ _ _ _ _ _ _ _ _ _ _ _ _ _ _ _ _ _ _ _ _ _ _ _ _ _ _ _ _ _ _ _ _ _ _ _ _ _ _ _ _ _ _ _ _ _ _ _ _ _ _ _ _ _ _ _ _ _ _ _ _ _ _ _ _ _ _ _ _ _ _ _ _ _ _ _ _ _ _ _ _ _ _ _ _ _ _ _ _ _ _ _ _ _ _ _ _ _ _ _ _ _ _ _ _ _ _ _ _ _ _ _ _ _ _ _ _ _ _ _ _ _ _ _ _ _ _ _ _ _ _ _ _ _ _ _ _ _ _ _ _ _ _ _ _ _ _ _ _ _ _ _ _ _ _ _ _ _ _ _ _ _ _ _ _ _ _ _ _ _ _ _ _ _ _ _ _ _ _ _ _ _ _ _ _ _ _ _ _ _ _ _ _ _ _ _ _ _ _ _ _ _ _ _ _ _ _ _ _ _ _ _ _ _ _ _ _ _ _ _ _ _ _ _ _ _ _ _ _ _ _ h _ _ ?_)
  intro n'; intros; rename_i w' e h'
  subst e
  exact tl9 E ib p0 l m w w' _ _ _ _ _ _ _ _ _ _ _ _ _ _ _ _ _ _ _ _ _ _ _ _ _ _ _ _ _ _ _ _ _ _ _ _ _ _ _ _ _ _ _ _ _ _ _ _ _ _ _ _ _ _ _ _ _ _ _ _ _ _ _ _ _ _ _ _ _ _ _ _ _ _ _ _ _ _ _ _ _ _ _ _ _ _ _ _ _ _ _ _ _ _ _ _ _ _ _ _ _ _ _ _ _ _ _ _ _ _ _ _ _ _ _ _ _ _ _ _ _ _ _ _ _ _ _ _ _ _ _ _ _ _ _ _ _ _ _ _ _ _ _ _ _ _ _ _ _ _ _ _ _ _ _ _ _ _ _ _ _ _ _ _ _ _ _ _ _ _ _ _ _ _ _ _ _ _ _ _ _ _ _ _ _ _ _ _ _ _ _ _ _ _ _ _ _ _ _ _ _ _ _ _ _ _ _ _ _ _ _ _ _ _ _ _ _ _ _ _ _ _ _ _ _ _ _ _ _ _ _ _ _ _ _ _ _ _ _ h' hI hL

set_option maxRecDepth 1000000 in
set_option maxHeartbeats 4000000 in
theorem tl7 (E : Env) (ib : Nat) (p0 : List UInt8) (l : List Nat) (m : Int) (w wb : World) (n : NS) (u2 u3 u10 u11 u12 u13 u14 u15 u16 u17 u18 u19 u20 u21 u22 u23 u24 u25 u26 u27 u28 u29 u30 u31 u32 u33 u34 u35 u36 u37 u38 u39 u40 u41 u42 u43 u44 u45 u46 u47 u48 u49 u50 u51 u52 u53 u54 u55 u56 u57 u58 u59 u60 u61 u62 u63 u64 u65 u66 u67 u68 u69 u70 u71 u72 u73 u74 u75 u76 u77 u78 u79 u80 u81 u82 u83 u84 u85 u86 u87 u88 u89 u90 u91 u92 u93 u94 u95 u96 u97 u98 u99 u100 u101 u102 u103 u104 u105 u106 u107 u108 u109 u110 u111 u112 u113 u114 u115 u116 u117 u118 u119 u120 u121 u122 u123 u124 u125 u126 u127 u128 u129 u130 u131 u132 u133 u134 u135 u136 u137 u138 u139 u140 u141 u142 u143 u144 u145 u146 u147 u148 u149 u150 u151 u152 u153 u154 u155 u156 u157 u158 u159 u160 u161 u162 u163 u164 u165 u166 u167 u168 u169 u170 u171 u172 u173 u174 u175 u176 u177 u178 u179 u180 u181 u182 u183 u184 u185 u186 u187 u188 u189 u190 u191 u192 u193 u194 u195 u196 u197 u198 u199 u200 u201 u202 u203 u204 u205 u206 u207 u208 u209 u210 u211 u212 u213 u214 u215 u216 u217 u218 u219 u220 u221 u222 u223 u224 u225 u226 u227 u228 u229 u230 u231 u232 u233 u234 u235 u236 u237 u238 u239 u240 u241 u242 u243 u244 u245 : Value) (h : NSt w wb E ib p0 l m n) (hI : InvOk p0.length n) (hL : ∀ c ∈ l, c < 1114112) :
    Code.wp Tryd.prog (t64 7) (bodyPost Tryd.prog Tryd.f64 (NumRes E p0 l w (nImag l (nExp p0.length l (nNo (nFrac p0.length l n)))))) ⟨#[.pointer (some ⟨E.c.sb, 0, none⟩), .bool n.seen, u2, u3, .bool n.ok, .int .u8 (n.kind : Int), .int .i64 (n.base : Int), .int .i32 (n.pre : Int), .int .i64 (dsv n.hd n.hs), .pointer (some ⟨ib, 0, none⟩), u10, u11, u12, u13, u14, u15, u16, u17, u18, u19, u20, u21, u22, u23, u24, u25, u26, u27, u28, u29, u30, u31, u32, u33, u34, u35, u36, u37, u38, u39, u40, u41, u42, u43, u44, u45, u46, u47, u48, u49, u50, u51, u52, u53, u54, u55, u56, u57, u58, u59, u60, u61, u62, u63, u64, u65, u66, u67, u68, u69, u70, u71, u72, u73, u74, u75, u76, u77, u78, u79, u80, u81, u82, u83, u84, u85, u86, u87, u88, u89, u90, u91, u92, u93, u94, u95, u96, u97, u98, u99, u100, u101, u102, u103, u104, u105, u106, u107, u108, u109, u110, u111, u112, u113, u114, u115, u116, u117, u118, u119, u120, u121, u122, u123, u124, u125, u126, u127, u128, u129, u130, u131, u132, u133, u134, u135, u136, u137, u138, u139, u140, u141, u142, u143, u144, u145, u146, u147, u148, u149, u150, u151, u152, u153, u154, u155, u156, u157, u158, u159, u160, u161, u162, u163, u164, u165, u166, u167, u168, u169, u170, u171, u172, u173, u174, u175, u176, u177, u178, u179, u180, u181, u182, u183, u184, u185, u186, u187, u188, u189, u190, u191, u192, u193, u194, u195, u196, u197, u198, u199, u200, u201, u202, u203, u204, u205, u206, u207, u208, u209, u210, u211, u212, u213, u214, u215, u216, u217, u218, u219, u220, u221, u222, u223, u224, u225, u226, u227, u228, u229, u230, u231, u232, u233, u234, u235, u236, u237, u238, u239, u240, u241, u242, u243, u244, u245], []⟩ wb := by
  rw [t64_7]
  refine wp_seq (pc7 E ib p0 l m w wb n _ _ _ _ _ _ _ _ _ _ _ _ _ _ _ _ _ _ _ _ _ _ _ _ _ _ _ _ _ _ _ _ _ _ _ _ _ _ _ _ _ _ _ _ _ _ _ _ _ _ _ _ _ _ _ _ _ _ _ _ _ _ _ _ _ _ _ _ _ _ _ _ _ _ _ _ _ _ _ _ _ _ _ _ _ _ _ _ _ _ _ _ _ _ _ _ _ _ _ _ _ _ _ _ _ _ _ _ _ _ _ _ _ _ _ _ _ _ _ _ _ _ _ _ _ _ _ _ _ _ _ _ _ _ _ _ _ _ _ _ _ _ _ _ _ _ _ _ _ _ _ _ _ _ _ _ _ _ _ _ _ _ _ _ _ _ _ _ _ _ _ _ _ _ _ _ _ _ _ _ _ _ _ _ _ _ _ _ _ _ _ _ _ _ _ _ _ _ _ _ _ _ _ _ _ _ _ _ _ _ _ _ _ _ _ _ _ _ _ _ _ _ _ _ _ _ _ _ _ _ _ _ _ _ _ _ _ _ h hL _ _ ?_)
  intro n'; intros; rename_i w' e h'
  subst e
  exact tl8 E ib p0 l m w w' _ _ _ _ _ _ _ _ _ _ _ _ _ _ _ _ _ _ _ _ _ _ _ _ _ _ _ _ _ _ _ _ _ _ _ _ _ _ _ _ _ _ _ _ _ _ _ _ _ _ _ _ _ _ _ _ _ _ _ _ _ _ _ _ _ _ _ _ _ _ _ _ _ _ _ _ _ _ _ _ _ _ _ _ _ _ _ _ _ _ _ _ _ _ _ _ _ _ _ _ _ _ _ _ _ _ _ _ _ _ _ _ _ _ _ _ _ _ _ _ _ _ _ _ _ _ _ _ _ _ _ _ _ _ _ _ _ _ _ _ _ _ _ _ _ _ _ _ _ _ _ _ _ _ _ _ _ _ _ _ _ _ _ _ _ _ _ _ _ _ _ _ _ _ _ _ _ _ _ _ _ _ _ _ _ _ _ _ _ _ _ _ _ _ _ _ _ _ _ _ _ _ _ _ _ _ _ _ _ _ _ _ _ _ _ _ _ _ _ _ _ _ _ _ _ _ _ _ _ _ _ _ _ _ _ _ _ _ _ h' (nFrac_invOk hI) hL
end Go.Proofs.YtnehkpoggkfikaaDoor

namespace Go.Proofs.YtnehkpoggkfikaaDoor
open Go.RowKit
set_option linter.unusedVariables false

theorem nPre_none : nPre [] = ⟨0, 0, 10, 0, false, false, -1, true, false⟩ := rfl
theorem nPre_other (c : Nat) (l : List Nat) (h : c ≠ 48) : nPre (c :: l) = ⟨0, 0, 10, 0, false, false, -1, true, false⟩ := by
  unfold nPre; split
  · rename_i h1; injection h1 with h1 _; exact absurd h1 h
  · rename_i h1; injection h1 with h1 _; exact absurd h1 h
  · rfl
theorem nPre_one : nPre [48] = ⟨1, 0, 8, 48, true, false, -1, true, false⟩ := rfl
theorem nPre_two (c : Nat) (l : List Nat) : nPre (48 :: c :: l) = if low c = 120 then ⟨2, 0, 16, 120, false, false, -1, true, false⟩
    else if low c = 111 then ⟨2, 0, 8, 111, false, false, -1, true, false⟩ else if low c = 98 then ⟨2, 0, 2, 98, false, false, -1, true, false⟩ else ⟨1, 0, 8, 48, true, false, -1, true, false⟩ := rfl

set_option maxRecDepth 100000 in
set_option maxHeartbeats 16000000 in
theorem number_calls (E : Env) (seen : Bool) (p0 : List UInt8) (l : List Nat) (m : Int) (w : World) (h : OpenTo w E p0 l m) (hnil : w.cell? ⟨E.pb, 4, none⟩ = some (.slice none 0 0)) (hp0 : ∀ b ∈ p0, b ≠ 10) (hl : ∀ c ∈ l, c < 1114112) :
    Calls Tryd.prog 64 #[.pointer (some ⟨E.c.sb, 0, none⟩), .bool seen] w (NumRes E p0 l w (numF p0.length seen l)) := by
  obtain ⟨hs1, hs2⟩ := num_start h hnil (-1)
  have N0 : Hid (∀ sn, NSt w (w.alloc (.cells #[.int .i64 (-1)] 3)) E w.heap.size p0 l m ⟨0, 0, 10, 0, false, false, -1, true, sn⟩) := fun sn =>
    ⟨by simpa [er, encs] using hs1, hs2, by simpa [encs] using hp0, by simp [encs], by simp, by simp, by simp, by simp⟩
  have HL := Lib.hid hl
  have h9 := hs1.ch
  have hdsv : dsv false false = 0 := rfl
  have hdsv1 : dsv true false = 1 := rfl
  clear h hnil hp0 hl hs1 hs2
  go_enter Tryd.func64, Tryd.ntmps64
  go_upto_if 13 with fail
  go_cut [1, 4, 6, 7, 8] (fun s1 s4 s6 s7 s8 wx => ∃ n, Hid (n = nStart p0.length seen l) ∧ s1 = .bool n.seen ∧ s4 = .bool n.ok ∧ s6 = .int .i64 (n.base : Int) ∧ s7 = .int .i32 (n.pre : Int) ∧ s8 = .int .i64 (dsv n.hd n.hs) ∧ Hid (NSt w wx E w.heap.size p0 l m n ∧ n.kind = 0))
  case first =>
    cases seen
    · go_upto_if 19 with fail
      go_cut [6, 7, 8] (fun s6 s7 s8 wx => ∃ n, Hid (n = nPre l) ∧ s6 = .int .i64 (n.base : Int) ∧ s7 = .int .i32 (n.pre : Int) ∧ s8 = .int .i64 (dsv n.hd n.hs) ∧ Hid (NSt w wx E w.heap.size p0 l m n ∧ n.kind = 0 ∧ n.seen = false ∧ n.ok = true))
      case first =>
        cases l with
        | nil =>
          simp only [chOf] at h9
          have t48 : (chOf ([] : List Nat) == 48) = false := by decide
          as_aux_lemma =>
            go_wp2_with fail
            go_meet
            case rel => exact ⟨_, Lib.hid nPre_none.symm, rfl, rfl, rfl, N0.out false, rfl, rfl, rfl⟩
        | cons c l2 =>
          simp only [chOf] at h9
          by_cases hc : c = 48
          · subst hc
            have N1 := N0.out false
            have hA1 := Lib.hid N1.at_
            cases l2 with
            | nil =>
              as_aux_lemma =>
                go_wp2_with (first | (go_at_call 57; refine (next_num E w.heap.size (-1) p0 48 [] 0 m _ (by simpa [er, encs] using hA1.out)).mono ?_; rintro en w2 ⟨rfl, hS2, hF2⟩; have h92 := hS2.ch; simp only [chOf] at h92; have hS2 := Lib.hid hS2; have hF2 := Lib.hid hF2) | (go_at_call 93; refine (lower_end _).mono ?_; rintro en w3 ⟨rfl, rfl⟩))
                go_meet
                case rel => exact ⟨_, Lib.hid nPre_one.symm, rfl, rfl, rfl, N1.next (l2 := []) rfl (by omega) (by omega) (by simpa [er, encs] using hS2.out) hF2.out rfl (by simp) (by simp) (by simp), rfl, rfl, rfl⟩
            | cons c2 l3 =>
              have hcb : Hid (c2 < 1114112) := HL.out c2 (by simp)
              have h2 := Lib.hid (nPre_two c2 l3)
              have hc0 : ¬ (c2 : Int) < 0 := by omega
              have hfirst : ∀ (w2 : World), NumAt w2 E w.heap.size (-1) (p0 ++ enc 48) (c2 :: l3) 0 m → GF E (w.alloc (.cells #[.int .i64 (-1)] 3)) w2 → NSt w w2 E w.heap.size p0 (48 :: c2 :: l3) m ⟨1, 0, 8, 48, true, false, -1, true, false⟩ := fun w2 hS2 hF2 =>
                N1.next (l2 := c2 :: l3) rfl (by omega) (by omega) (by simpa [er, encs] using hS2) hF2 rfl (by simp) (by simp) (by simp)
              have HF1 := Lib.hid hfirst
              have hasc : Hid (∀ v, v = 120 ∨ v = 111 ∨ v = 98 → low c2 = v → c2 < 128 ∧ c2 ≠ 10) := fun v hv h => by
                have := low_ge c2
                refine ⟨by omega, fun e => ?_⟩
                subst e
                have : low 10 = 42 := by decide +kernel
                omega
              by_cases hx : low c2 = 120
              · have tx : ((low c2 : Int) == 120) = true := by simp; omega
                have hpre : Hid (nPre (48 :: c2 :: l3) = ⟨2, 0, 16, 120, false, false, -1, true, false⟩) := by show _ = _; rw [h2.out, if_pos hx]
                have ha := Lib.hid (hasc.out 120 (by omega) hx)
                clear hx hfirst N1
                as_aux_lemma =>
                  go_wp2_with (first | (go_at_call 57; refine (next_num E w.heap.size (-1) p0 48 (c2 :: l3) 0 m _ (by simpa [er, encs] using hA1.out)).mono ?_; rintro en w2 ⟨rfl, hS2, hF2⟩; have h92 := hS2.ch; simp only [chOf] at h92; have hN2 := Lib.hid (HF1.out w2 hS2 hF2); have hS2 := Lib.hid hS2; clear hA1 hF2) | (go_at_call 93; refine (lower_calls c2 _ (by have := hcb.out; omega)).mono ?_; rintro en w3 ⟨rfl, rfl⟩) | (go_at_call 57; refine (next_num E w.heap.size (-1) (p0 ++ enc 48) c2 l3 0 m _ hS2.out).mono ?_; rintro en w4 ⟨rfl, hS4, hF4⟩; have hS4 := Lib.hid hS4; have hF4 := Lib.hid hF4))
                  go_meet
                  case rel => exact ⟨_, Lib.hid hpre.out.symm, rfl, rfl, rfl, hN2.out.next (c := c2) (l2 := l3) rfl ha.out.1 ha.out.2 (by simpa [er, encs] using hS4.out) hF4.out rfl (by simp) (by simp) (by simp), rfl, rfl, rfl⟩
              have tx : ((low c2 : Int) == 120) = false := by simp; omega
              by_cases ho : low c2 = 111
              · have tox : ((low c2 : Int) == 111) = true := by simp; omega
                have hpre : Hid (nPre (48 :: c2 :: l3) = ⟨2, 0, 8, 111, false, false, -1, true, false⟩) := by show _ = _; rw [h2.out, if_neg hx, if_pos ho]
                have ha := Lib.hid (hasc.out 111 (by omega) ho)
                clear hx ho hfirst N1
                as_aux_lemma =>
                  go_wp2_with (first | (go_at_call 57; refine (next_num E w.heap.size (-1) p0 48 (c2 :: l3) 0 m _ (by simpa [er, encs] using hA1.out)).mono ?_; rintro en w2 ⟨rfl, hS2, hF2⟩; have h92 := hS2.ch; simp only [chOf] at h92; have hN2 := Lib.hid (HF1.out w2 hS2 hF2); have hS2 := Lib.hid hS2; clear hA1 hF2) | (go_at_call 93; refine (lower_calls c2 _ (by have := hcb.out; omega)).mono ?_; rintro en w3 ⟨rfl, rfl⟩) | (go_at_call 57; refine (next_num E w.heap.size (-1) (p0 ++ enc 48) c2 l3 0 m _ hS2.out).mono ?_; rintro en w4 ⟨rfl, hS4, hF4⟩; have hS4 := Lib.hid hS4; have hF4 := Lib.hid hF4))
                  go_meet
                  case rel => exact ⟨_, Lib.hid hpre.out.symm, rfl, rfl, rfl, hN2.out.next (c := c2) (l2 := l3) rfl ha.out.1 ha.out.2 (by simpa [er, encs] using hS4.out) hF4.out rfl (by simp) (by simp) (by simp), rfl, rfl, rfl⟩
              have tox : ((low c2 : Int) == 111) = false := by simp; omega
              by_cases hb : low c2 = 98
              · have tb : ((low c2 : Int) == 98) = true := by simp; omega
                have hpre : Hid (nPre (48 :: c2 :: l3) = ⟨2, 0, 2, 98, false, false, -1, true, false⟩) := by show _ = _; rw [h2.out, if_neg hx, if_neg ho, if_pos hb]
                have ha := Lib.hid (hasc.out 98 (by omega) hb)
                clear hx ho hb hfirst N1
                as_aux_lemma =>
                  go_wp2_with (first | (go_at_call 57; refine (next_num E w.heap.size (-1) p0 48 (c2 :: l3) 0 m _ (by simpa [er, encs] using hA1.out)).mono ?_; rintro en w2 ⟨rfl, hS2, hF2⟩; have h92 := hS2.ch; simp only [chOf] at h92; have hN2 := Lib.hid (HF1.out w2 hS2 hF2); have hS2 := Lib.hid hS2; clear hA1 hF2) | (go_at_call 93; refine (lower_calls c2 _ (by have := hcb.out; omega)).mono ?_; rintro en w3 ⟨rfl, rfl⟩) | (go_at_call 57; refine (next_num E w.heap.size (-1) (p0 ++ enc 48) c2 l3 0 m _ hS2.out).mono ?_; rintro en w4 ⟨rfl, hS4, hF4⟩; have hS4 := Lib.hid hS4; have hF4 := Lib.hid hF4))
                  go_meet
                  case rel => exact ⟨_, Lib.hid hpre.out.symm, rfl, rfl, rfl, hN2.out.next (c := c2) (l2 := l3) rfl ha.out.1 ha.out.2 (by simpa [er, encs] using hS4.out) hF4.out rfl (by simp) (by simp) (by simp), rfl, rfl, rfl⟩
              · have tb : ((low c2 : Int) == 98) = false := by simp; omega
                have hpre : Hid (nPre (48 :: c2 :: l3) = ⟨1, 0, 8, 48, true, false, -1, true, false⟩) := by show _ = _; rw [h2.out, if_neg hx, if_neg ho, if_neg hb]
                clear hx ho hb hfirst N1
                as_aux_lemma =>
                  go_wp2_with (first | (go_at_call 57; refine (next_num E w.heap.size (-1) p0 48 (c2 :: l3) 0 m _ (by simpa [er, encs] using hA1.out)).mono ?_; rintro en w2 ⟨rfl, hS2, hF2⟩; have h92 := hS2.ch; simp only [chOf] at h92; have hN2 := Lib.hid (HF1.out w2 hS2 hF2); clear hA1 hS2 hF2) | (go_at_call 93; refine (lower_calls c2 _ (by have := hcb.out; omega)).mono ?_; rintro en w3 ⟨rfl, rfl⟩))
                  go_meet
                  case rel => exact ⟨_, Lib.hid hpre.out.symm, rfl, rfl, rfl, hN2.out, rfl, rfl, rfl⟩
          · have t48 : (chOf (c :: l2) == 48) = false := by simp [chOf]; omega
            have hpre := Lib.hid (nPre_other c l2 hc)
            clear hc
            as_aux_lemma =>
              go_wp2_with fail
              go_meet
              case rel => exact ⟨_, Lib.hid hpre.out.symm, rfl, rfl, rfl, N0.out false, rfl, rfl, rfl⟩
      case rest =>
        obtain ⟨n, hn, rfl, rfl, rfl, hN⟩ := hcut
        obtain ⟨k, kind, base, pre, hd, hs, inv, ok, sn⟩ := n
        obtain ⟨hN1, hN2, hN3, hN4⟩ := hN.out
        simp only at hN2 hN3 hN4
        subst hN2 hN3 hN4
        have HN := Lib.hid hN1
        have hor := dsv_or
        have hbs := hN1.base
        have hpr := hN1.pre
        simp only at hbs hpr
        clear hN hN1 h9 N0
        go_wp2_with fail
        go_at_call 94
        refine (digits_num HN.out HL.out).mono ?_
        rintro en w2 ⟨r, rfl, hr, hN2⟩
        have hst : Hid (nStart p0.length false l = nPt l ⟨k + r.k, 0, base, pre, hd || r.hd, hs || r.hs, r.inv, true, false⟩) := by
          show _ = _
          unfold nStart nDig
          rw [← hn.out, hr]; rfl
        have h92 := hN2.ch
        have HN2 := Lib.hid hN2
        simp only at h92
        clear hr hN2 hn HN
        cases hd' : l.drop (k + r.k) with
        | nil =>
          rw [hd'] at h92
          simp only [chOf] at h92
          have hpt := Lib.hid (nPt_no (n := ⟨k + r.k, 0, base, pre, hd || r.hd, hs || r.hs, r.inv, true, false⟩) (show (l.drop (k + r.k)).head? ≠ some 46 by rw [hd']; simp))
          clear hd'
          as_aux_lemma =>
            go_wp2_with fail
            go_meet
            case rel => exact ⟨_, Lib.hid (hst.out.trans hpt.out).symm, rfl, rfl, rfl, rfl, rfl, HN2.out, rfl⟩
        | cons c t =>
          rw [hd'] at h92
          simp only [chOf] at h92
          by_cases hc : c = 46
          · subst hc
            have hpt := Lib.hid (nPt_yes (n := ⟨k + r.k, 0, base, pre, hd || r.hd, hs || r.hs, r.inv, true, false⟩) (show (l.drop (k + r.k)).head? = some 46 by rw [hd']; rfl))
            have hA := HN2.out.at_
            simp only at hA
            rw [hd'] at hA
            have hA := Lib.hid hA
            have hdd : Hid (l.drop (k + r.k) = 46 :: t) := hd'
            clear hd'
            rcases hpr with rfl | rfl | rfl | rfl | rfl
            · as_aux_lemma =>
                go_wp2_with (go_at_call 57; refine (next_num E w.heap.size r.inv _ 46 t 0 m _ hA.out).mono ?_; rintro en w3 ⟨rfl, hS3, hF3⟩; have HS3 := Lib.hid hS3; have HF3 := Lib.hid hF3; clear hS3 hF3)
                go_meet
                case rel => exact ⟨_, Lib.hid (hst.out.trans hpt.out).symm, rfl, rfl, rfl, rfl, rfl, HN2.out.next hdd.out (by omega) (by omega) HS3.out HF3.out rfl HN2.out.base HN2.out.pre (by simp), rfl⟩
            · as_aux_lemma =>
                go_wp2_with (go_at_call 57; refine (next_num E w.heap.size r.inv _ 46 t 0 m _ hA.out).mono ?_; rintro en w3 ⟨rfl, hS3, hF3⟩; have HS3 := Lib.hid hS3; have HF3 := Lib.hid hF3; clear hS3 hF3)
                go_meet
                case rel => exact ⟨_, Lib.hid (hst.out.trans hpt.out).symm, rfl, rfl, rfl, rfl, rfl, HN2.out.next hdd.out (by omega) (by omega) HS3.out HF3.out rfl HN2.out.base HN2.out.pre (by simp), rfl⟩
            · as_aux_lemma =>
                go_wp2_with (go_at_call 57; refine (next_num E w.heap.size r.inv _ 46 t 0 m _ hA.out).mono ?_; rintro en w3 ⟨rfl, hS3, hF3⟩; have HS3 := Lib.hid hS3; have HF3 := Lib.hid hF3; clear hS3 hF3)
                go_meet
                case rel => exact ⟨_, Lib.hid (hst.out.trans hpt.out).symm, rfl, rfl, rfl, rfl, rfl, HN2.out.next hdd.out (by omega) (by omega) HS3.out HF3.out rfl HN2.out.base HN2.out.pre (by simp), rfl⟩
            all_goals
              as_aux_lemma =>
                go_wp2_with (first | (go_at_call 95; refine (baseName_calls _ _ (by omega)).mono ?_; rintro en w5 ⟨⟨mm, rfl⟩, rfl⟩) | (go_at_call 91; refine (errorf_num E w.heap.size r.inv _ (46 :: t) 0 m _ _ _ _ _ (hA.out.new _) (by omega)).mono ?_; rintro en w6 ⟨rfl, hS6, hF6⟩; have HS6 := Lib.hid hS6; have HF6 := Lib.hid ((hA.out.gnew _).trans hF6); clear hS6 hF6) | (go_at_call 57; refine (next_num E w.heap.size r.inv _ 46 t (0 + 1) m _ HS6.out).mono ?_; rintro en w3 ⟨rfl, hS3, hF3⟩; have HS3 := Lib.hid hS3; have HF3 := Lib.hid hF3; clear hS3 hF3))
                go_meet
                case rel => exact ⟨_, Lib.hid (hst.out.trans hpt.out).symm, rfl, rfl, rfl, rfl, rfl, HN2.out.next hdd.out (by omega) (by omega) HS3.out (HF6.out.trans HF3.out) rfl HN2.out.base HN2.out.pre (by simp), rfl⟩
          · have t46 : ((c : Int) == 46) = false := by simp; omega
            have hpt := Lib.hid (nPt_no (n := ⟨k + r.k, 0, base, pre, hd || r.hd, hs || r.hs, r.inv, true, false⟩) (show (l.drop (k + r.k)).head? ≠ some 46 by rw [hd']; simp [hc]))
            clear hd' hc
            as_aux_lemma =>
              go_wp2_with fail
              go_meet
              case rel => exact ⟨_, Lib.hid (hst.out.trans hpt.out).symm, rfl, rfl, rfl, rfl, rfl, HN2.out, rfl⟩
    · as_aux_lemma =>
        go_wp2_with fail
        go_meet
        case rel =>
          exact ⟨_, Lib.hid rfl, rfl, rfl, rfl, rfl, rfl, N0.out true, rfl⟩
  case rest =>
    obtain ⟨n, hn, rfl, rfl, rfl, rfl, rfl, hN⟩ := hcut
    obtain ⟨k, kind, base, pre, hd, hs, inv, ok, sn⟩ := n
    obtain ⟨hN1, hN2⟩ := hN.out
    simp only at hN2
    subst hN2
    apply_assumption
    have e : numF p0.length seen l = nImag l (nExp p0.length l (nNo (nFrac p0.length l ⟨k, 0, base, pre, hd, hs, inv, ok, sn⟩))) := by unfold numF; rw [← hn.out]
    rw [e]
    exact tl7 E w.heap.size p0 l m w _ ⟨k, 0, base, pre, hd, hs, inv, ok, sn⟩ _ _ _ _ _ _ _ _ _ _ _ _ _ _ _ _ _ _ _ _ _ _ _ _ _ _ _ _ _ _ _ _ _ _ _ _ _ _ _ _ _ _ _ _ _ _ _ _ _ _ _ _ _ _ _ _ _ _ _ _ _ _ _ _ _ _ _ _ _ _ _ _ _ _ _ _ _ _ _ _ _ _ _ _ _ _ _ _ _ _ _ _ _ _ _ _ _ _ _ _ _ _ _ _ _ _ _ _ _ _ _ _ _ _ _ _ _ _ _ _ _ _ _ _ _ _ _ _ _ _ _ _ _ _ _ _ _ _ _ _ _ _ _ _ _ _ _ _ _ _ _ _ _ _ _ _ _ _ _ _ _ _ _ _ _ _ _ _ _ _ _ _ _ _ _ _ _ _ _ _ _ _ _ _ _ _ _ _ _ _ _ _ _ _ _ _ _ _ _ _ _ _ _ _ _ _ _ _ _ _ _ _ _ _ _ _ _ _ _ _ _ _ _ _ _ _ _ _ _ _ _ _ _ _ _ _ _ _ hN1 (by have := nStart_invOk p0.length seen l; rw [← hn.out] at this; exact this) HL.out
end Go.Proofs.YtnehkpoggkfikaaDoor

namespace Go.Proofs.YtnehkpoggkfikaaDoor
open Go.RowKit
set_option linter.unusedVariables false

/-- As OpenTo, and the part's notes are nil. -/
structure OpenToN (w : World) (E : Env) (p : List UInt8) (l : List Nat) (m : Int) : Prop where
  open_ : OpenTo w E p l m
  nil_ : w.cell? ⟨E.pb, 4, none⟩ = some (.slice none 0 0)
theorem open_nextN (E : Env) (p : List UInt8) (x : Nat) (l : List Nat) (m : Int) (w : World) (h : OpenToN w E p (x :: l) m) :
    Calls Tryd.prog 57 #[.pointer (some ⟨E.c.sb, 0, none⟩)] w fun e w' => e = .returned (.tuple #[]) ∧ OpenToN w' E (p ++ enc x) l m ∧ TK E w w' := by
  obtain ⟨⟨⟨s, hS, ha⟩, tail, c17, c18, c19⟩, hnil⟩ := h
  refine (nextch_any E.c s w hS.src).mono ?_
  rintro e w' ⟨he, hS', hFr⟩
  have hF := hFr.gf hS.ok hS.told.size hS.told.b1
  have hb := hFr.block E.pb (Nat.lt_of_lt_of_le hS.told.b1 hS.told.size) hS.ok.p1 hS.ok.p2 hS.ok.p3
  exact ⟨he, ⟨⟨⟨s.next, ⟨hS.ok, hS', hS.told.fr hS.ok hFr⟩, ha.next⟩, tail.gf hF, (hF.tail 17 (by omega)).trans c17, (hF.tail 18 (by omega)).trans c18, (hF.tail 19 (by omega)).trans c19⟩, (World.cell?_of_block (w := w) hb).trans hnil⟩, hF.tk⟩
theorem opened_toN {w : World} {ea : Addr} {T : List UInt8} {xb : Nat} {m : Int} {l : List Nat} {E : Env} {w2 : World} (hD : DoorAt w ea T xb) (hO : Opened (doorW w) (w.heap.size + 1) m l E w2) : OpenToN w2 E [] l m :=
  ⟨hO.to, by rw [hO.pb]; exact (hO.below.cell (p := ⟨w.heap.size + 1, 4, none⟩) (by show _ < _; rw [hD.size]; show w.heap.size + 1 < _; omega)).trans hD.p4⟩

/-- A number: what the scanner reads, q bytes ahead. -/
def NumIs (p0 : List UInt8) (seen : Bool) (l : List Nat) : TokR := fun lit kind bad ch ns =>
  let n := numF p0.length seen l
  lit = ⟨(p0 ++ encs (l.take n.k)).toArray⟩ ∧ kind = n.kind ∧ ch = chOf (l.drop n.k) ∧
  ∃ z : Int, ((n.ok && !(decide (n.kind = 0) && decide (0 ≤ n.inv))) = true → n.hs = true → Sep.Answer lit (Sep.sepHex lit) (Sep.sepSt lit) z) ∧
    bad = (!((n.ok && !(decide (n.kind = 0) && decide (0 ≤ n.inv))) && !(n.hs && decide (0 ≤ z)))) ∧ ns.length = er ((n.ok && !(decide (n.kind = 0) && decide (0 ≤ n.inv))) && !(n.hs && decide (0 ≤ z)))
theorem numRes_end {E : Env} {p0 : List UInt8} {seen : Bool} {l : List Nat} {w : World} {en : Ending} {w' : World} (hl : okAll l) (hk : (numF p0.length seen l).kind ≤ 2) (h : NumRes E p0 l w (numF p0.length seen l) en w') : TokEnd (NumIs p0 seen l) E w en w' := by
  obtain ⟨z, hz, rfl, hT, ns, hns, hE⟩ := h
  exact TokEnd.mk hT ⟨rfl, rfl, rfl, z, hz, rfl, hns⟩ (by omega) (chOf_bounds fun x hx => hl x (List.mem_of_mem_drop hx)) hE
theorem nImag_kind {l : List Nat} {n : NS} (h : n.kind ≤ 2) : (nImag l n).kind ≤ 2 := by
  unfold nImag; split
  · exact Nat.le_refl _
  · exact h
theorem nExp_kind {q : Nat} {l : List Nat} {n : NS} (h : n.kind ≤ 2) : (nExp q l n).kind ≤ 2 := by
  unfold nExp; split
  · have : (nSign l (nLet l n)).kind = 1 := by
      unfold nSign; split
      · split <;> rfl
      · rfl
    show (nSign l (nLet l n)).kind ≤ 2
    omega
  · exact h
theorem numF_kind (q : Nat) (seen : Bool) (l : List Nat) : (numF q seen l).kind ≤ 2 := by
  unfold numF
  refine nImag_kind (nExp_kind ?_)
  show (nFrac q l (nStart q seen l)).kind ≤ 2
  unfold nFrac
  split
  · show 1 ≤ 2; omega
  · have h1 : ∀ l, (nPre l).kind = 0 := fun l => by
      unfold nPre
      repeat' split
      all_goals rfl
    unfold nStart
    split
    · show 0 ≤ 2; omega
    · unfold nPt
      split
      · show (nPre l).kind ≤ 2; rw [h1]; omega
      · show (nPre l).kind ≤ 2; rw [h1]; omega
end Go.Proofs.YtnehkpoggkfikaaDoor
