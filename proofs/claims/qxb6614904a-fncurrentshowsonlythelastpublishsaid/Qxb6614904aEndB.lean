/-
  THE MAIN WALK: from region 53 to 60.
-/
import Derived.Test.Qxb6614904aEndA
namespace Go.Proofs.Qxb6614904a
open Go.RowKit Go.Maps

/-! ### the stores of regions 59 and 60 -/
set_option maxRecDepth 100000 in
set_option maxHeartbeats 8000000 in
theorem t59 {u1 u6 u7 u8 u9 u10 u11 u12 u13 u14 u15 u16 u17 u18 u19 u20 u21 u22 u23 u24 u25 u26 u27 u28 u29 u30 u34 u35 u36 u37 u38 u39 u40 u41 u42 u43 u44 u45 u46 u47 u48 u49 u50 u51 u52 u53 u54 u55 u56 u57 u58 u59 u60 u61 u62 u63 u64 u65 u66 u67 u68 u69 u70 u71 u72 u73 u74 u75 u76 u77 u78 u79 u80 u81 u82 u83 u84 u85 u86 u87 u88 u89 u90 u91 u92 u93 u94 u95 u96 u97 u98 u99 u100 u101 u102 u103 u104 u105 u106 u107 u108 u109 u110 u111 u112 u113 u114 u115 u116 u117 u118 u119 u120 u121 u122 u123 u124 u125 u126 u127 u128 u129 u130 u131 u132 u133 u134 u135 u136 u137 u138 u139 u140 u141 u142 u143 u144 u145 u146 u147 u148 u149 u150 u151 u152 u153 u154 u155 u156 u157 u158 u159 u160 u161 u162 u163 u164 u165 u166 u167 u168 u169 u170 u171 u172 u173 u174 u175 u176 u177 u178 u179 u180 u181 u182 u183 u184 u185 u186 u187 u188 u189 u190 u191 u192 u193 u194 u195 u196 u197 u198 u199 u200 u201 u202 u203 u204 u205 u206 u207 u208 u209 u210 u211 u212 u213 u214 u215 u216 u217 u218 u219 u220 u221 u222 u223 u224 u225 u226 u227 u228 u229 u230 u231 u232 u233 u234 u235 u236 u237 u238 u239 u240 u241 u242 u243 u244 u245 u246 u247 u248 u249 u250 u251 u252 u253 u254 u255 u256 u257 u258 u259 u260 u261 u262 u263 u264 u265 u266 u267 u268 u269 u270 u271 u272 u273 u274 u275 u276 u277 u278 u279 u280 u281 u282 u283 u284 u285 u286 u287 u288 u289 u290 u291 u292 u293 u294 u295 u296 u297 u298 u299 u300 u301 u302 u303 u304 u305 u306 u307 u308 u309 u310 u311 u312 u313 u314 u315 u316 u317 u318 : Value} (C : Code) (hC : C = (sndSeq (sndSeq (sndSeq (sndSeq (sndSeq (sndSeq (sndSeq (sndSeq (sndSeq (sndSeq (sndSeq (sndSeq (sndSeq (sndSeq (sndSeq (sndSeq (sndSeq (sndSeq (sndSeq (sndSeq (sndSeq (sndSeq (sndSeq (sndSeq (sndSeq (sndSeq (sndSeq (sndSeq (sndSeq (Try.f3.body.getD .skip))))))))))))))))))))))))))))))) (w0 W0 W : World) (a0 : Int) (a2 : Option Addr) (cap2 : Nat) (a3 : Option Addr) (len3 cap3 : Nat) (a4 a5 : Int) (acc : List (Int × Int)) (b cm gm : Nat) (sl : Value) (L : List (Int × Int)) (x : Option Addr) (N c B : Nat) (p : Nat) (g3 g4 : Nat)
    (hbel : Below w0.heap.size w0 W0) (HD : Hid (Done w0 W0 b cm gm B (.slice x N c) L (acc ++ [(a4, a5)]))) (HN : Hid (N = L.length)) (HV : Hid (Vw w0 W0 p b cm gm (.int .u64 a0) sl (.slice none 0 0) (.slice none 0 0) (.slice x N c))) (HL : Hid (len3 = acc.length)) (l3 : len3 ≤ 4096) (hk : Kept [] W0 W) (b3 : W0.heap.size ≤ g3) (b4 : W0.heap.size ≤ g4) (b34 : g3 ≠ g4) (H3 : Hid (Row w0 W .i64 3 Prod.fst g3 (len3 + 1) len3 (acc ++ [(a4, a5)]))) (H4 : Hid (Row w0 W .u64 22 Prod.snd g4 (len3 + 1) len3 (acc ++ [(a4, a5)]))) :
    C.wp Try.prog (bodyPost Try.prog Try.f3 fun e w' => e = .returned (.bool true) ∧ Below w0.heap.size w0 w') ⟨#[.int .u64 a0, u1, .slice a2 len3 cap2, .slice a3 len3 cap3, .int .i64 a4, .int .u64 a5, u6, u7, u8, u9, u10, u11, u12, u13, u14, u15, u16, u17, u18, u19, u20, u21, u22, u23, u24, u25, u26, u27, u28, u29, u30, .pointer (some ⟨p, 0, none⟩), .slice (some ⟨g3, 0, none⟩) (len3 + 1) (len3 + 1), .slice (some ⟨g4, 0, none⟩) (len3 + 1) (len3 + 1), u34, u35, u36, u37, u38, u39, u40, u41, u42, u43, u44, u45, u46, u47, u48, u49, u50, u51, u52, u53, u54, u55, u56, u57, u58, u59, u60, u61, u62, u63, u64, u65, u66, u67, u68, u69, u70, u71, u72, u73, u74, u75, u76, u77, u78, u79, u80, u81, u82, u83, u84, u85, u86, u87, u88, u89, u90, u91, u92, u93, u94, u95, u96, u97, u98, u99, u100, u101, u102, u103, u104, u105, u106, u107, u108, u109, u110, u111, u112, u113, u114, u115, u116, u117, u118, u119, u120, u121, u122, u123, u124, u125, u126, u127, u128, u129, u130, u131, u132, u133, u134, u135, u136, u137, u138, u139, u140, u141, u142, u143, u144, u145, u146, u147, u148, u149, u150, u151, u152, u153, u154, u155, u156, u157, u158, u159, u160, u161, u162, u163, u164, u165, u166, u167, u168, u169, u170, u171, u172, u173, u174, u175, u176, u177, u178, u179, u180, u181, u182, u183, u184, u185, u186, u187, u188, u189, u190, u191, u192, u193, u194, u195, u196, u197, u198, u199, u200, u201, u202, u203, u204, u205, u206, u207, u208, u209, u210, u211, u212, u213, u214, u215, u216, u217, u218, u219, u220, u221, u222, u223, u224, u225, u226, u227, u228, u229, u230, u231, u232, u233, u234, u235, u236, u237, u238, u239, u240, u241, u242, u243, u244, u245, u246, u247, u248, u249, u250, u251, u252, u253, u254, u255, u256, u257, u258, u259, u260, u261, u262, u263, u264, u265, u266, u267, u268, u269, u270, u271, u272, u273, u274, u275, u276, u277, u278, u279, u280, u281, u282, u283, u284, u285, u286, u287, u288, u289, u290, u291, u292, u293, u294, u295, u296, u297, u298, u299, u300, u301, u302, u303, u304, u305, u306, u307, u308, u309, u310, u311, u312, u313, u314, u315, u316, u317, u318], []⟩ W := by
  simp only [Try.f3, Option.getD_some, sndSeq] at hC
  subst hC
  dsimp only
  have hy1 : a4 = Prod.fst ((acc ++ [(a4, a5)]).getD len3 (0, 0)) := by rw [HL.out, getD_last]
  have hy2 : a5 = Prod.snd ((acc ++ [(a4, a5)]).getD len3 (0, 0)) := by rw [HL.out, getD_last]
  have HY1 : Hid _ := hy1
  have HY2 : Hid _ := hy2
  clear hy1 hy2
  go_upto_region 59 with fail
  go_cut [] (fun wx => Kept [] W0 wx ∧ Row w0 wx .i64 3 Prod.fst g3 (len3 + 1) (len3 + 1) (acc ++ [(a4, a5)]) ∧ Row w0 wx .u64 22 Prod.snd g4 (len3 + 1) len3 (acc ++ [(a4, a5)]))
  case first => as_aux_lemma =>
    obtain ⟨⟨y1, e1⟩, f1⟩ := H3.out.room (i := len3) (by omega)
    have hk2 : Kept [g3] W (W.setCell ⟨g3, len3, none⟩ (.int .i64 a4)) := (Kept.refl _ _).setCell (.inl (by simp)) _
    have Q1 : Hid _ := H3.out.set (by omega) HY1.out
    have Q2 : Hid _ := H4.out.kept hk2 (by simpa using Ne.symm b34)
    have hK : Hid _ := hk.trans' hk2 (by simpa using b3)
    clear hk2 hk
    go_wp2
    go_meet
    exact ⟨hK.out, Q1.out, Q2.out⟩
  case rest => as_aux_lemma =>
  obtain ⟨hk1, r3, r4⟩ := hcut
  have R3 : Hid _ := r3
  have R4 : Hid _ := r4
  clear r3 r4
  obtain ⟨W1, hW1⟩ : ∃ W1, W1 = wc := ⟨_, rfl⟩
  subst hW1
  go_upto_region 60 with fail
  go_cut [] (fun wx => Kept [] W0 wx ∧ Row w0 wx .i64 3 Prod.fst g3 (len3 + 1) (len3 + 1) (acc ++ [(a4, a5)]) ∧ Row w0 wx .u64 22 Prod.snd g4 (len3 + 1) (len3 + 1) (acc ++ [(a4, a5)]))
  case first => as_aux_lemma =>
    obtain ⟨⟨y1, e1⟩, f1⟩ := R4.out.room (i := len3) (by omega)
    have hk2 : Kept [g4] W1 (W1.setCell ⟨g4, len3, none⟩ (.int .u64 a5)) := (Kept.refl _ _).setCell (.inl (by simp)) _
    have Q1 : Hid _ := R3.out.kept hk2 (by simpa using b34)
    have Q2 : Hid _ := R4.out.set (by omega) HY2.out
    have hK : Hid _ := hk1.trans' hk2 (by simpa using b4)
    clear hk2 hk1
    go_wp2
    go_meet
    exact ⟨hK.out, Q1.out, Q2.out⟩
  case rest => as_aux_lemma =>
  obtain ⟨hk2, r3, r4⟩ := hcut
  have hM : len3 + 1 = (acc ++ [(a4, a5)]).length := by simp; exact HL.out
  refine (show ∀ a w, Code.wp Try.prog _ _ a w → _ from by assumption) _ _ ?_
  exact t61 _ (by rfl) w0 wc wc a0 (acc ++ [(a4, a5)]) b cm gm sl L x N c B p (len3 + 1) g3 g4 (hk2.below hbel hbel.size (by simp)) (show Hid _ from HD.out.kept hk2 (by simp)) HN (show Hid _ from HV.out.kept hk2 (by simp)) (show Hid _ from two_rows r3 r4 hM) (show Hid _ from hM) (by omega) (Kept.refl _ _)

/-! ### the copies of regions 57 and 58 -/
set_option maxRecDepth 100000 in
set_option maxHeartbeats 8000000 in
theorem t57 {u1 u6 u7 u8 u9 u10 u11 u12 u13 u14 u15 u16 u17 u18 u19 u20 u21 u22 u23 u24 u25 u26 u27 u28 u29 u30 u34 u35 u36 u37 u38 u39 u40 u41 u42 u43 u44 u45 u46 u47 u48 u49 u50 u51 u52 u53 u54 u55 u56 u57 u58 u59 u60 u61 u62 u63 u64 u65 u66 u67 u68 u69 u70 u71 u72 u73 u74 u75 u76 u77 u78 u79 u80 u81 u82 u83 u84 u85 u86 u87 u88 u89 u90 u91 u92 u93 u94 u95 u96 u97 u98 u99 u100 u101 u102 u103 u104 u105 u106 u107 u108 u109 u110 u111 u112 u113 u114 u115 u116 u117 u118 u119 u120 u121 u122 u123 u124 u125 u126 u127 u128 u129 u130 u131 u132 u133 u134 u135 u136 u137 u138 u139 u140 u141 u142 u143 u144 u145 u146 u147 u148 u149 u150 u151 u152 u153 u154 u155 u156 u157 u158 u159 u160 u161 u162 u163 u164 u165 u166 u167 u168 u169 u170 u171 u172 u173 u174 u175 u176 u177 u178 u179 u180 u181 u182 u183 u184 u185 u186 u187 u188 u189 u190 u191 u192 u193 u194 u195 u196 u197 u198 u199 u200 u201 u202 u203 u204 u205 u206 u207 u208 u209 u210 u211 u212 u213 u214 u215 u216 u217 u218 u219 u220 u221 u222 u223 u224 u225 u226 u227 u228 u229 u230 u231 u232 u233 u234 u235 u236 u237 u238 u239 u240 u241 u242 u243 u244 u245 u246 u247 u248 u249 u250 u251 u252 u253 u254 u255 u256 u257 u258 u259 u260 u261 u262 u263 u264 u265 u266 u267 u268 u269 u270 u271 u272 u273 u274 u275 u276 u277 u278 u279 u280 u281 u282 u283 u284 u285 u286 u287 u288 u289 u290 u291 u292 u293 u294 u295 u296 u297 u298 u299 u300 u301 u302 u303 u304 u305 u306 u307 u308 u309 u310 u311 u312 u313 u314 u315 u316 u317 u318 : Value} (C : Code) (hC : C = (sndSeq (sndSeq (sndSeq (sndSeq (sndSeq (sndSeq (sndSeq (sndSeq (sndSeq (sndSeq (sndSeq (sndSeq (sndSeq (sndSeq (sndSeq (sndSeq (sndSeq (sndSeq (sndSeq (sndSeq (sndSeq (sndSeq (sndSeq (sndSeq (sndSeq (sndSeq (sndSeq (Try.f3.body.getD .skip))))))))))))))))))))))))))))) (w0 W0 W : World) (a0 : Int) (a2 : Option Addr) (cap2 : Nat) (a3 : Option Addr) (len3 cap3 : Nat) (a4 a5 : Int) (acc : List (Int × Int)) (b cm gm : Nat) (sl : Value) (L : List (Int × Int)) (x : Option Addr) (N c B : Nat) (p : Nat) (g3 g4 : Nat)
    (hbel : Below w0.heap.size w0 W0) (HD : Hid (Done w0 W0 b cm gm B (.slice x N c) L (acc ++ [(a4, a5)]))) (HN : Hid (N = L.length)) (HV : Hid (Vw w0 W0 p b cm gm (.int .u64 a0) sl (.slice none 0 0) (.slice none 0 0) (.slice x N c))) (HT : Hid (Two w0 a2 a3 acc)) (HL : Hid (len3 = acc.length)) (l3 : len3 ≤ 4096) (hk : Kept [] W0 W) (b3 : W0.heap.size ≤ g3) (b4 : W0.heap.size ≤ g4) (b34 : g3 ≠ g4) (H3 : Hid (Row w0 W .i64 3 Prod.fst g3 (len3 + 1) 0 (acc ++ [(a4, a5)]))) (H4 : Hid (Row w0 W .u64 22 Prod.snd g4 (len3 + 1) 0 (acc ++ [(a4, a5)]))) :
    C.wp Try.prog (bodyPost Try.prog Try.f3 fun e w' => e = .returned (.bool true) ∧ Below w0.heap.size w0 w') ⟨#[.int .u64 a0, u1, .slice a2 len3 cap2, .slice a3 len3 cap3, .int .i64 a4, .int .u64 a5, u6, u7, u8, u9, u10, u11, u12, u13, u14, u15, u16, u17, u18, u19, u20, u21, u22, u23, u24, u25, u26, u27, u28, u29, u30, .pointer (some ⟨p, 0, none⟩), .slice (some ⟨g3, 0, none⟩) (len3 + 1) (len3 + 1), .slice (some ⟨g4, 0, none⟩) (len3 + 1) (len3 + 1), u34, u35, u36, u37, u38, u39, u40, u41, u42, u43, u44, u45, u46, u47, u48, u49, u50, u51, u52, u53, u54, u55, u56, u57, u58, u59, u60, u61, u62, u63, u64, u65, u66, u67, u68, u69, u70, u71, u72, u73, u74, u75, u76, u77, u78, u79, u80, u81, u82, u83, u84, u85, u86, u87, u88, u89, u90, u91, u92, u93, u94, u95, u96, u97, u98, u99, u100, u101, u102, u103, u104, u105, u106, u107, u108, u109, u110, u111, u112, u113, u114, u115, u116, u117, u118, u119, u120, u121, u122, u123, u124, u125, u126, u127, u128, u129, u130, u131, u132, u133, u134, u135, u136, u137, u138, u139, u140, u141, u142, u143, u144, u145, u146, u147, u148, u149, u150, u151, u152, u153, u154, u155, u156, u157, u158, u159, u160, u161, u162, u163, u164, u165, u166, u167, u168, u169, u170, u171, u172, u173, u174, u175, u176, u177, u178, u179, u180, u181, u182, u183, u184, u185, u186, u187, u188, u189, u190, u191, u192, u193, u194, u195, u196, u197, u198, u199, u200, u201, u202, u203, u204, u205, u206, u207, u208, u209, u210, u211, u212, u213, u214, u215, u216, u217, u218, u219, u220, u221, u222, u223, u224, u225, u226, u227, u228, u229, u230, u231, u232, u233, u234, u235, u236, u237, u238, u239, u240, u241, u242, u243, u244, u245, u246, u247, u248, u249, u250, u251, u252, u253, u254, u255, u256, u257, u258, u259, u260, u261, u262, u263, u264, u265, u266, u267, u268, u269, u270, u271, u272, u273, u274, u275, u276, u277, u278, u279, u280, u281, u282, u283, u284, u285, u286, u287, u288, u289, u290, u291, u292, u293, u294, u295, u296, u297, u298, u299, u300, u301, u302, u303, u304, u305, u306, u307, u308, u309, u310, u311, u312, u313, u314, u315, u316, u317, u318], []⟩ W := by
  simp only [Try.f3, Option.getD_some, sndSeq] at hC
  subst hC
  dsimp only
  have hls : len3 ≤ len3 + 1 := by omega
  go_upto_region 57 with fail
  go_cut [] (fun wx => Kept [] W0 wx ∧ Row w0 wx .i64 3 Prod.fst g3 (len3 + 1) len3 (acc ++ [(a4, a5)]) ∧ Row w0 wx .u64 22 Prod.snd g4 (len3 + 1) 0 (acc ++ [(a4, a5)]))
  case first => as_aux_lemma =>
    have hb : Below w0.heap.size w0 W := hk.below hbel hbel.size (by simp)
    obtain ⟨w3, hrun, hr, hg⟩ := H3.out.copy (T := 24) (dCap := len3 + 1) (cap := cap2) Try.underlying24 size3 (HT.out.kept0 (Kept.of_below hb)).one (by rw [← HL.out]; omega)
    rw [← HL.out] at hrun hr
    have hk2 : Kept [g3] W w3 := (Kept.refl _ _).grown hg (by simp)
    have Q1 : Hid _ := hr
    have Q2 : Hid _ := H4.out.kept hk2 (by simpa using Ne.symm b34)
    have hK : Hid _ := hk.trans' hk2 (by simpa using b3)
    clear hk2 hk hr hg hb
    go_wp2
    go_meet
    exact ⟨hK.out, Q1.out, Q2.out⟩
  case rest => as_aux_lemma =>
  obtain ⟨hk1, r3, r4⟩ := hcut
  have R3 : Hid _ := r3
  have R4 : Hid _ := r4
  clear r3 r4
  obtain ⟨W1, hW1⟩ : ∃ W1, W1 = wc := ⟨_, rfl⟩
  subst hW1
  go_upto_region 58 with fail
  go_cut [] (fun wx => Kept [] W0 wx ∧ Row w0 wx .i64 3 Prod.fst g3 (len3 + 1) len3 (acc ++ [(a4, a5)]) ∧ Row w0 wx .u64 22 Prod.snd g4 (len3 + 1) len3 (acc ++ [(a4, a5)]))
  case first => as_aux_lemma =>
    have hb : Below w0.heap.size w0 W1 := hk1.below hbel hbel.size (by simp)
    obtain ⟨w3, hrun, hr, hg⟩ := R4.out.copy (T := 23) (dCap := len3 + 1) (cap := cap3) Try.underlying23 size22 (HT.out.kept0 (Kept.of_below hb)).two (by rw [← HL.out]; omega)
    rw [← HL.out] at hrun hr
    have hk2 : Kept [g4] W1 w3 := (Kept.refl _ _).grown hg (by simp)
    have Q1 : Hid _ := R3.out.kept hk2 (by simpa using b34)
    have Q2 : Hid _ := hr
    have hK : Hid _ := hk1.trans' hk2 (by simpa using b4)
    clear hk2 hk1 hr hg hb
    go_wp2
    go_meet
    exact ⟨hK.out, Q1.out, Q2.out⟩
  case rest => as_aux_lemma =>
  obtain ⟨hk2, r3, r4⟩ := hcut
  refine (show ∀ a w, Code.wp Try.prog _ _ a w → _ from by assumption) _ _ ?_
  exact t59 _ (by rfl) w0 W0 wc a0 a2 cap2 a3 len3 cap3 a4 a5 acc b cm gm sl L x N c B p g3 g4 hbel HD HN HV HL l3 hk2 b3 b4 b34 r3 r4

/-! ### the makes of regions 55 and 56 -/
set_option maxRecDepth 100000 in
set_option maxHeartbeats 8000000 in
theorem t55 {u1 u6 u7 u8 u9 u10 u11 u12 u13 u14 u15 u16 u17 u18 u19 u20 u21 u22 u23 u24 u25 u26 u27 u28 u29 u30 u32 u33 u34 u35 u36 u37 u38 u39 u40 u41 u42 u43 u44 u45 u46 u47 u48 u49 u50 u51 u52 u53 u54 u55 u56 u57 u58 u59 u60 u61 u62 u63 u64 u65 u66 u67 u68 u69 u70 u71 u72 u73 u74 u75 u76 u77 u78 u79 u80 u81 u82 u83 u84 u85 u86 u87 u88 u89 u90 u91 u92 u93 u94 u95 u96 u97 u98 u99 u100 u101 u102 u103 u104 u105 u106 u107 u108 u109 u110 u111 u112 u113 u114 u115 u116 u117 u118 u119 u120 u121 u122 u123 u124 u125 u126 u127 u128 u129 u130 u131 u132 u133 u134 u135 u136 u137 u138 u139 u140 u141 u142 u143 u144 u145 u146 u147 u148 u149 u150 u151 u152 u153 u154 u155 u156 u157 u158 u159 u160 u161 u162 u163 u164 u165 u166 u167 u168 u169 u170 u171 u172 u173 u174 u175 u176 u177 u178 u179 u180 u181 u182 u183 u184 u185 u186 u187 u188 u189 u190 u191 u192 u193 u194 u195 u196 u197 u198 u199 u200 u201 u202 u203 u204 u205 u206 u207 u208 u209 u210 u211 u212 u213 u214 u215 u216 u217 u218 u219 u220 u221 u222 u223 u224 u225 u226 u227 u228 u229 u230 u231 u232 u233 u234 u235 u236 u237 u238 u239 u240 u241 u242 u243 u244 u245 u246 u247 u248 u249 u250 u251 u252 u253 u254 u255 u256 u257 u258 u259 u260 u261 u262 u263 u264 u265 u266 u267 u268 u269 u270 u271 u272 u273 u274 u275 u276 u277 u278 u279 u280 u281 u282 u283 u284 u285 u286 u287 u288 u289 u290 u291 u292 u293 u294 u295 u296 u297 u298 u299 u300 u301 u302 u303 u304 u305 u306 u307 u308 u309 u310 u311 u312 u313 u314 u315 u316 u317 u318 : Value} (C : Code) (hC : C = (sndSeq (sndSeq (sndSeq (sndSeq (sndSeq (sndSeq (sndSeq (sndSeq (sndSeq (sndSeq (sndSeq (sndSeq (sndSeq (sndSeq (sndSeq (sndSeq (sndSeq (sndSeq (sndSeq (sndSeq (sndSeq (sndSeq (sndSeq (sndSeq (sndSeq (Try.f3.body.getD .skip))))))))))))))))))))))))))) (w0 W0 W : World) (a0 : Int) (a2 : Option Addr) (cap2 : Nat) (a3 : Option Addr) (len3 cap3 : Nat) (a4 a5 : Int) (acc : List (Int × Int)) (b cm gm : Nat) (sl : Value) (L : List (Int × Int)) (x : Option Addr) (N c B : Nat) (p : Nat)
    (hbel : Below w0.heap.size w0 W0) (HD : Hid (Done w0 W0 b cm gm B (.slice x N c) L (acc ++ [(a4, a5)]))) (HN : Hid (N = L.length)) (HV : Hid (Vw w0 W0 p b cm gm (.int .u64 a0) sl (.slice none 0 0) (.slice none 0 0) (.slice x N c))) (HT : Hid (Two w0 a2 a3 acc)) (HL : Hid (len3 = acc.length)) (l3 : len3 ≤ 4096) (hk : Kept [] W0 W) :
    C.wp Try.prog (bodyPost Try.prog Try.f3 fun e w' => e = .returned (.bool true) ∧ Below w0.heap.size w0 w') ⟨#[.int .u64 a0, u1, .slice a2 len3 cap2, .slice a3 len3 cap3, .int .i64 a4, .int .u64 a5, u6, u7, u8, u9, u10, u11, u12, u13, u14, u15, u16, u17, u18, u19, u20, u21, u22, u23, u24, u25, u26, u27, u28, u29, u30, .pointer (some ⟨p, 0, none⟩), u32, u33, u34, u35, u36, u37, u38, u39, u40, u41, u42, u43, u44, u45, u46, u47, u48, u49, u50, u51, u52, u53, u54, u55, u56, u57, u58, u59, u60, u61, u62, u63, u64, u65, u66, u67, u68, u69, u70, u71, u72, u73, u74, u75, u76, u77, u78, u79, u80, u81, u82, u83, u84, u85, u86, u87, u88, u89, u90, u91, u92, u93, u94, u95, u96, u97, u98, u99, u100, u101, u102, u103, u104, u105, u106, u107, u108, u109, u110, u111, u112, u113, u114, u115, u116, u117, u118, u119, u120, u121, u122, u123, u124, u125, u126, u127, u128, u129, u130, u131, u132, u133, u134, u135, u136, u137, u138, u139, u140, u141, u142, u143, u144, u145, u146, u147, u148, u149, u150, u151, u152, u153, u154, u155, u156, u157, u158, u159, u160, u161, u162, u163, u164, u165, u166, u167, u168, u169, u170, u171, u172, u173, u174, u175, u176, u177, u178, u179, u180, u181, u182, u183, u184, u185, u186, u187, u188, u189, u190, u191, u192, u193, u194, u195, u196, u197, u198, u199, u200, u201, u202, u203, u204, u205, u206, u207, u208, u209, u210, u211, u212, u213, u214, u215, u216, u217, u218, u219, u220, u221, u222, u223, u224, u225, u226, u227, u228, u229, u230, u231, u232, u233, u234, u235, u236, u237, u238, u239, u240, u241, u242, u243, u244, u245, u246, u247, u248, u249, u250, u251, u252, u253, u254, u255, u256, u257, u258, u259, u260, u261, u262, u263, u264, u265, u266, u267, u268, u269, u270, u271, u272, u273, u274, u275, u276, u277, u278, u279, u280, u281, u282, u283, u284, u285, u286, u287, u288, u289, u290, u291, u292, u293, u294, u295, u296, u297, u298, u299, u300, u301, u302, u303, u304, u305, u306, u307, u308, u309, u310, u311, u312, u313, u314, u315, u316, u317, u318], []⟩ W := by
  simp only [Try.f3, Option.getD_some, sndSeq] at hC
  subst hC
  dsimp only
  have hlo := hbel.size
  obtain ⟨i3, hi3, hz30, hz31, hz32⟩ := info_parts info3
  obtain ⟨i22, hi22, hz20, hz21, hz22⟩ := info_parts info22
  have hsz := hk.size
  go_upto_region 55 with fail
  go_cut [32] (fun s wx => ∃ g, s = .slice (some ⟨g, 0, none⟩) (len3 + 1) (len3 + 1) ∧ Row w0 wx .i64 3 Prod.fst g (len3 + 1) 0 (acc ++ [(a4, a5)]) ∧ W0.heap.size ≤ g ∧ Kept [] W0 wx)
  case first => as_aux_lemma =>
    go_wp2_with (at_make; refine wpList_make_full _ rfl _ _ 24 rfl W.heap.size 3 i3 (.int .i64 0) 1 Try.underlying24 hi3 hz30 hz31 _ _ _ _ (len3 + 1) rfl rfl rfl rfl (by rw [hz32]; omega) (by unfold maxLen; omega) (Nat.le_refl _) ?_)
    intro w2 hown hg2
    have hrow : Hid (Row w0 w2 .i64 3 Prod.fst W.heap.size (len3 + 1) 0 (acc ++ [(a4, a5)])) := Row.made hown (by omega)
    have hk2 : Hid (Kept [] W0 w2) := hk.trans ((Kept.refl _ _).grown hg2 (by simp))
    clear hown hg2
    go_wp2
    go_meet
    exact ⟨_, rfl, hrow.out, hsz, hk2.out⟩
  case rest => as_aux_lemma =>
  obtain ⟨g1, rfl, r1, hg1, hk1⟩ := hcut
  have R1 : Hid _ := r1
  have hsz1 := hk1.size
  have hlt1 := r1.lt
  clear r1
  obtain ⟨W1, hW1⟩ : ∃ W1, W1 = wc := ⟨_, rfl⟩
  subst hW1
  go_upto_region 56 with fail
  go_cut [33] (fun s wx => ∃ g, s = .slice (some ⟨g, 0, none⟩) (len3 + 1) (len3 + 1) ∧ Row w0 wx .i64 3 Prod.fst g1 (len3 + 1) 0 (acc ++ [(a4, a5)]) ∧ Row w0 wx .u64 22 Prod.snd g (len3 + 1) 0 (acc ++ [(a4, a5)]) ∧ W0.heap.size ≤ g ∧ g1 ≠ g ∧ Kept [] W0 wx)
  case first => as_aux_lemma =>
    go_wp2_with (at_make; refine wpList_make_full _ rfl _ _ 23 rfl W1.heap.size 22 i22 (.int .u64 0) 1 Try.underlying23 hi22 hz20 hz21 _ _ _ _ (len3 + 1) rfl rfl rfl rfl (by rw [hz22]; omega) (by unfold maxLen; omega) (Nat.le_refl _) ?_)
    intro w2 hown hg2
    have hrow : Hid (Row w0 w2 .u64 22 Prod.snd W1.heap.size (len3 + 1) 0 (acc ++ [(a4, a5)])) := Row.made hown (by omega)
    have hk2 : Hid (Kept [] W0 w2) := hk1.trans ((Kept.refl _ _).grown hg2 (by simp))
    have hrow1 : Hid (Row w0 w2 .i64 3 Prod.fst g1 (len3 + 1) 0 (acc ++ [(a4, a5)])) := R1.out.kept (S := []) ((Kept.refl _ _).grown hg2 (by simp)) (by simp)
    clear hown hg2
    go_wp2
    go_meet
    exact ⟨_, rfl, hrow1.out, hrow.out, hsz1, by omega, hk2.out⟩
  case rest => as_aux_lemma =>
  obtain ⟨g2, rfl, r1, r2, hg2, h12, hk2⟩ := hcut
  refine (show ∀ a w, Code.wp Try.prog _ _ a w → _ from by assumption) _ _ ?_
  exact t57 _ (by rfl) w0 W0 wc a0 a2 cap2 a3 len3 cap3 a4 a5 acc b cm gm sl L x N c B p g1 g2 hbel HD HN HV HT HL l3 hk2 hg1 hg2 h12 r1 r2

/-! ### regions 53 and 54 -/
set_option maxRecDepth 100000 in
set_option maxHeartbeats 8000000 in
theorem t53 {u1 u6 u7 u8 u9 u10 u11 u12 u13 u15 u16 u17 u18 u19 u20 u21 u22 u23 u24 u25 u26 u27 u28 u29 u30 u31 u32 u33 u34 u35 u36 u37 u38 u39 u40 u41 u42 u43 u44 u45 u46 u47 u48 u49 u50 u51 u52 u53 u54 u55 u56 u57 u58 u59 u60 u61 u62 u63 u64 u65 u66 u67 u68 u69 u70 u71 u72 u73 u74 u75 u76 u77 u78 u79 u80 u81 u82 u83 u84 u85 u86 u87 u88 u89 u90 u91 u92 u93 u94 u95 u96 u97 u98 u99 u100 u101 u102 u103 u104 u105 u106 u107 u108 u109 u110 u111 u112 u113 u114 u115 u116 u117 u118 u119 u120 u121 u122 u123 u124 u125 u126 u127 u128 u129 u130 u131 u132 u133 u134 u135 u136 u137 u138 u139 u140 u141 u142 u143 u144 u145 u146 u147 u148 u149 u150 u151 u152 u153 u154 u155 u156 u157 u158 u159 u160 u161 u162 u163 u164 u165 u166 u167 u168 u169 u170 u171 u172 u173 u174 u175 u176 u177 u178 u179 u180 u181 u182 u183 u184 u185 u186 u187 u188 u189 u190 u191 u192 u193 u194 u195 u196 u197 u198 u199 u200 u201 u202 u203 u204 u205 u206 u207 u208 u209 u210 u211 u212 u213 u214 u215 u216 u217 u218 u219 u220 u221 u222 u223 u224 u225 u226 u227 u228 u229 u230 u231 u232 u233 u234 u235 u236 u237 u238 u239 u240 u241 u242 u243 u244 u245 u246 u247 u248 u249 u250 u251 u252 u253 u254 u255 u256 u257 u258 u259 u260 u261 u262 u263 u264 u265 u266 u267 u268 u269 u270 u271 u272 u273 u274 u275 u276 u277 u278 u279 u280 u281 u282 u283 u284 u285 u286 u287 u288 u289 u290 u291 u292 u293 u294 u295 u296 u297 u298 u299 u300 u301 u302 u303 u304 u305 u306 u307 u308 u309 u310 u311 u312 u313 u314 u315 u316 u317 u318 : Value} (C : Code) (hC : C = (sndSeq (sndSeq (sndSeq (sndSeq (sndSeq (sndSeq (sndSeq (sndSeq (sndSeq (sndSeq (sndSeq (sndSeq (sndSeq (sndSeq (sndSeq (sndSeq (sndSeq (sndSeq (sndSeq (sndSeq (sndSeq (sndSeq (sndSeq (Try.f3.body.getD .skip))))))))))))))))))))))))) (w0 W : World) (a0 : Int) (a2 : Option Addr) (cap2 : Nat) (a3 : Option Addr) (len3 cap3 : Nat) (a4 a5 : Int) (acc : List (Int × Int)) (b cm gm : Nat) (sl : Value) (v0 v1 v2 v3 v4 : Value)
    (HR : Hid (Run w0 W b cm gm a0 sl v0 v1 v2 v3 v4 (acc ++ [(a4, a5)]))) (HT : Hid (Two w0 a2 a3 acc)) (HL : Hid (len3 = acc.length)) (l3 : len3 ≤ 4096) (Hok : Hid (∀ x ∈ acc, okP x)) (Hx : Hid (okP (a4, a5))) :
    C.wp Try.prog (bodyPost Try.prog Try.f3 fun e w' => e = .returned (.bool true) ∧ Below w0.heap.size w0 w') ⟨#[.int .u64 a0, u1, .slice a2 len3 cap2, .slice a3 len3 cap3, .int .i64 a4, .int .u64 a5, u6, u7, u8, u9, u10, u11, u12, u13, .pointer (some ⟨b, 0, none⟩), u15, u16, u17, u18, u19, u20, u21, u22, u23, u24, u25, u26, u27, u28, u29, u30, u31, u32, u33, u34, u35, u36, u37, u38, u39, u40, u41, u42, u43, u44, u45, u46, u47, u48, u49, u50, u51, u52, u53, u54, u55, u56, u57, u58, u59, u60, u61, u62, u63, u64, u65, u66, u67, u68, u69, u70, u71, u72, u73, u74, u75, u76, u77, u78, u79, u80, u81, u82, u83, u84, u85, u86, u87, u88, u89, u90, u91, u92, u93, u94, u95, u96, u97, u98, u99, u100, u101, u102, u103, u104, u105, u106, u107, u108, u109, u110, u111, u112, u113, u114, u115, u116, u117, u118, u119, u120, u121, u122, u123, u124, u125, u126, u127, u128, u129, u130, u131, u132, u133, u134, u135, u136, u137, u138, u139, u140, u141, u142, u143, u144, u145, u146, u147, u148, u149, u150, u151, u152, u153, u154, u155, u156, u157, u158, u159, u160, u161, u162, u163, u164, u165, u166, u167, u168, u169, u170, u171, u172, u173, u174, u175, u176, u177, u178, u179, u180, u181, u182, u183, u184, u185, u186, u187, u188, u189, u190, u191, u192, u193, u194, u195, u196, u197, u198, u199, u200, u201, u202, u203, u204, u205, u206, u207, u208, u209, u210, u211, u212, u213, u214, u215, u216, u217, u218, u219, u220, u221, u222, u223, u224, u225, u226, u227, u228, u229, u230, u231, u232, u233, u234, u235, u236, u237, u238, u239, u240, u241, u242, u243, u244, u245, u246, u247, u248, u249, u250, u251, u252, u253, u254, u255, u256, u257, u258, u259, u260, u261, u262, u263, u264, u265, u266, u267, u268, u269, u270, u271, u272, u273, u274, u275, u276, u277, u278, u279, u280, u281, u282, u283, u284, u285, u286, u287, u288, u289, u290, u291, u292, u293, u294, u295, u296, u297, u298, u299, u300, u301, u302, u303, u304, u305, u306, u307, u308, u309, u310, u311, u312, u313, u314, u315, u316, u317, u318], []⟩ W := by
  simp only [Try.f3, Option.getD_some, sndSeq] at hC
  subst hC
  dsimp only
  go_upto_region 53 with fail
  go_cut [] (fun wx => ∃ B x c L, Run w0 wx b cm gm a0 sl (.int .u64 a0) sl (.slice none 0 0) (.slice none 0 0) (.slice x (List.length L) c) (acc ++ [(a4, a5)]) ∧ Done w0 wx b cm gm B (.slice x (List.length L) c) L (acc ++ [(a4, a5)]))
  case first => as_aux_lemma =>
    have h := HR.out
    have hP : Hid _ := publish8 b cm gm a0 sl v0 v1 v2 v3 v4 (acc ++ [(a4, a5)]) W h.st h.cmap h.gone (by have := HL.out; simp; omega) (ok_app Hok.out Hx.out)
    clear h
    go_wp2_with fail
    refine (show Calls _ _ _ _ _ from hP.out).mono ?_
    rintro e w1 ⟨rfl, rv, L, hst, hA, hmem, hrow, hk1⟩
    obtain ⟨x, c, rfl⟩ := ownsRow_form hrow
    have hR1 : Hid (Run w0 w1 b cm gm a0 sl (.int .u64 a0) sl (.slice none 0 0) (.slice none 0 0) (.slice x L.length c) (acc ++ [(a4, a5)])) := HR.out.view hk1 hst
    have hD1 : Hid (Done w0 w1 b cm gm W.heap.size (.slice x L.length c) L (acc ++ [(a4, a5)])) := ⟨hA, hmem, hrow, HR.out.bel.size, HR.out.st.lt, (Array.getElem?_eq_some_iff.1 HR.out.cmap).1, HR.out.gone.lt⟩
    clear hst hA hmem hrow hk1 hP
    go_wp2
    go_meet
    exact ⟨_, x, c, L, hR1.out, hD1.out⟩
  case rest => as_aux_lemma =>
  obtain ⟨B, x, c, L, hR, hD⟩ := hcut
  obtain ⟨N, hN⟩ : ∃ N, N = L.length := ⟨_, rfl⟩
  rw [← hN] at hR hD
  have HN : Hid (N = L.length) := hN
  clear HR hN
  have HR : Hid _ := hR
  have HD : Hid _ := hD
  clear hR hD
  obtain ⟨W1, hW1⟩ : ∃ W1, W1 = wc := ⟨_, rfl⟩
  subst hW1
  go_upto_region 54 with fail
  go_cut [31] (fun s wx => ∃ p, s = .pointer (some ⟨p, 0, none⟩) ∧ Below w0.heap.size w0 wx ∧ Done w0 wx b cm gm B (.slice x N c) L (acc ++ [(a4, a5)]) ∧ Vw w0 wx p b cm gm (.int .u64 a0) sl (.slice none 0 0) (.slice none 0 0) (.slice x N c))
  case first => as_aux_lemma =>
    have hC : Hid _ := current9 b cm gm a0 sl _ _ _ _ _ W1 HR.out.st
    have hst1 := run_store_one Try.prog
    have o1 := HR.out.st.one.1
    go_wp2_with fail
    refine (show Calls _ _ _ _ _ from hC.out).mono ?_
    rintro e w1 ⟨rfl, hst, hk1⟩
    have hR1 := HR.out.view hk1 hst
    have hD1 := HD.out.kept hk1 (by simpa using HD.out.b)
    have h0 := hR1.bel.size
    have hB2 : Hid (Below w0.heap.size w0 (w1.alloc (.cells #[.int .u64 a0, sl, .slice none 0 0, .slice none 0 0, .slice x N c] 37))) := (hR1.kept (S := []) ((Kept.refl _ _).alloc _) (by simp) (by simp) (by simp) (by simp)).bel
    have hD2 : Hid (Done w0 (w1.alloc (.cells #[.int .u64 a0, sl, .slice none 0 0, .slice none 0 0, .slice x N c] 37)) b cm gm B (.slice x N c) L (acc ++ [(a4, a5)])) := hD1.kept (S := []) ((Kept.refl _ _).alloc _) (by simp)
    have hV2 : Hid (Vw w0 (w1.alloc (.cells #[.int .u64 a0, sl, .slice none 0 0, .slice none 0 0, .slice x N c] 37)) w1.heap.size b cm gm (.int .u64 a0) sl (.slice none 0 0) (.slice none 0 0) (.slice x N c)) := Vw.made h0 hst.lt hR1.gone.lt
    clear hst hR1 hD1 HR HD hC hk1
    go_wp2
    go_meet
    exact ⟨_, rfl, hB2.out, hD2.out, hV2.out⟩
  case rest => as_aux_lemma =>
  obtain ⟨p, rfl, hbel, hD, hV⟩ := hcut
  refine (show ∀ a w, Code.wp Try.prog _ _ a w → _ from by assumption) _ _ ?_
  exact t55 _ (by rfl) w0 wc wc a0 a2 cap2 a3 len3 cap3 a4 a5 acc b cm gm sl L x N c B p hbel hD HN hV HT HL l3 (Kept.refl _ _)
end Go.Proofs.Qxb6614904a
