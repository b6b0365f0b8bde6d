/-
  THE MAIN WALK: from region 61 to the end.
-/
import Derived.Test.Qxb6614904aTwos
namespace Go.Proofs.Qxb6614904a
open Go.RowKit Go.Maps

/-! ### from region 72 to the end -/
set_option maxRecDepth 100000 in
set_option maxHeartbeats 8000000 in
theorem t72 {u1 u2 u3 u4 u5 u6 u7 u8 u9 u10 u11 u12 u13 u14 u15 u16 u17 u18 u19 u20 u21 u22 u23 u24 u25 u26 u27 u28 u29 u30 u34 u37 u38 u39 u40 u41 u42 u43 u44 u45 u46 u47 u48 u49 u50 u51 u52 u53 u54 u55 u56 u57 u58 u59 u60 u61 u62 u63 u64 u65 u66 u67 u68 u69 u70 u71 u72 u73 u74 u75 u76 u77 u78 u79 u80 u81 u82 u83 u84 u85 u86 u87 u88 u89 u90 u91 u92 u93 u94 u95 u96 u97 u98 u99 u100 u101 u102 u103 u104 u105 u106 u107 u108 u109 u110 u111 u112 u113 u114 u115 u116 u117 u118 u119 u120 u121 u122 u123 u124 u125 u126 u127 u128 u129 u130 u131 u132 u133 u134 u135 u136 u137 u138 u139 u140 u141 u142 u143 u144 u145 u146 u147 u148 u149 u150 u151 u152 u153 u154 u155 u156 u157 u158 u159 u160 u161 u162 u163 u164 u165 u166 u167 u168 u169 u170 u171 u172 u173 u174 u175 u176 u177 u178 u179 u180 u181 u182 u183 u184 u185 u186 u187 u188 u189 u190 u191 u192 u193 u194 u195 u196 u197 u198 u199 u200 u201 u202 u203 u204 u205 u206 u207 u208 u209 u210 u211 u212 u213 u214 u215 u216 u217 u218 u219 u220 u221 u222 u223 u224 u225 u226 u227 u228 u229 u230 u231 u232 u233 u234 u235 u236 u237 u238 u239 u240 u241 u242 u243 u244 u245 u246 u247 u248 u249 u250 u251 u252 u253 u254 u255 u256 u257 u258 u259 u260 u261 u262 u263 u264 u265 u266 u267 u268 u269 u270 u271 u272 u273 u274 u275 u276 u277 u278 u279 u280 u281 u282 u283 u284 u285 u286 u287 u288 u289 u290 u291 u292 u293 u294 u295 u296 u297 u298 u299 u300 u301 u302 u303 u304 u305 u306 u307 u308 u309 u310 u311 u312 u313 u314 u315 u316 u317 u318 : Value} (C : Code) (hC : C = (sndSeq (sndSeq (sndSeq (sndSeq (sndSeq (sndSeq (sndSeq (sndSeq (sndSeq (sndSeq (sndSeq (sndSeq (sndSeq (sndSeq (sndSeq (sndSeq (sndSeq (sndSeq (sndSeq (sndSeq (sndSeq (sndSeq (sndSeq (sndSeq (sndSeq (sndSeq (sndSeq (sndSeq (sndSeq (sndSeq (sndSeq (sndSeq (sndSeq (sndSeq (sndSeq (sndSeq (Try.f3.body.getD .skip)))))))))))))))))))))))))))))))))))))) (w0 W : World) (a0 : Int) (b cm gm p M N g3 g4 g5 g6 : Nat) (v1 v2 v3 v4 : Value)
    (hbel : Below w0.heap.size w0 W) (HV : Hid (Vw w0 W p b cm gm (.int .u64 a0) v1 v2 v3 v4)) (HA : Hid (Calls Try.prog 12 #[.slice (some ⟨g5, 0, none⟩) N N, .slice (some ⟨g6, 0, none⟩) N N, .slice (some ⟨g3, 0, none⟩) M M, .slice (some ⟨g4, 0, none⟩) M M] W fun e w' => e = .returned (.bool true) ∧ Kept [] W w')) :
    C.wp Try.prog (bodyPost Try.prog Try.f3 fun e w' => e = .returned (.bool true) ∧ Below w0.heap.size w0 w') ⟨#[.int .u64 a0, u1, u2, u3, u4, u5, u6, u7, u8, u9, u10, u11, u12, u13, u14, u15, u16, u17, u18, u19, u20, u21, u22, u23, u24, u25, u26, u27, u28, u29, u30, .pointer (some ⟨p, 0, none⟩), .slice (some ⟨g3, 0, none⟩) M M, .slice (some ⟨g4, 0, none⟩) M M, u34, .slice (some ⟨g5, 0, none⟩) N N, .slice (some ⟨g6, 0, none⟩) N N, u37, u38, u39, u40, u41, u42, u43, u44, u45, u46, u47, u48, u49, u50, u51, u52, u53, u54, u55, u56, u57, u58, u59, u60, u61, u62, u63, u64, u65, u66, u67, u68, u69, u70, u71, u72, u73, u74, u75, u76, u77, u78, u79, u80, u81, u82, u83, u84, u85, u86, u87, u88, u89, u90, u91, u92, u93, u94, u95, u96, u97, u98, u99, u100, u101, u102, u103, u104, u105, u106, u107, u108, u109, u110, u111, u112, u113, u114, u115, u116, u117, u118, u119, u120, u121, u122, u123, u124, u125, u126, u127, u128, u129, u130, u131, u132, u133, u134, u135, u136, u137, u138, u139, u140, u141, u142, u143, u144, u145, u146, u147, u148, u149, u150, u151, u152, u153, u154, u155, u156, u157, u158, u159, u160, u161, u162, u163, u164, u165, u166, u167, u168, u169, u170, u171, u172, u173, u174, u175, u176, u177, u178, u179, u180, u181, u182, u183, u184, u185, u186, u187, u188, u189, u190, u191, u192, u193, u194, u195, u196, u197, u198, u199, u200, u201, u202, u203, u204, u205, u206, u207, u208, u209, u210, u211, u212, u213, u214, u215, u216, u217, u218, u219, u220, u221, u222, u223, u224, u225, u226, u227, u228, u229, u230, u231, u232, u233, u234, u235, u236, u237, u238, u239, u240, u241, u242, u243, u244, u245, u246, u247, u248, u249, u250, u251, u252, u253, u254, u255, u256, u257, u258, u259, u260, u261, u262, u263, u264, u265, u266, u267, u268, u269, u270, u271, u272, u273, u274, u275, u276, u277, u278, u279, u280, u281, u282, u283, u284, u285, u286, u287, u288, u289, u290, u291, u292, u293, u294, u295, u296, u297, u298, u299, u300, u301, u302, u303, u304, u305, u306, u307, u308, u309, u310, u311, u312, u313, u314, u315, u316, u317, u318], []⟩ W := by
  simp only [Try.f3, Option.getD_some, sndSeq] at hC
  subst hC
  dsimp only
  go_wp2_with fail
  refine (show Calls _ _ _ _ _ from HA.out).mono ?_
  rintro e w1 ⟨rfl, hk1⟩
  have hV1 := HV.out.kept hk1 (by simp)
  have hb1 := hk1.below hbel hbel.size (by simp)
  have c0 := hV1.c0
  have c1 := hV1.c1
  have c2 := hV1.c2
  have c3 := hV1.c3
  have c4 := hV1.c4
  clear HA HV hbel hk1 hV1
  go_wp2_with fail
  refine (config13 _ _ _ _ _ _).mono ?_
  rintro e w2 ⟨rfl, hk2⟩
  clear c0 c1 c2 c3 c4
  go_wp2
  go_ret
  exact ⟨by simp, hk2.below hb1 hb1.size (by simp)⟩

/-! ### the loop of region 67 -/
set_option maxRecDepth 100000 in
set_option maxHeartbeats 8000000 in
theorem t66 {u1 u2 u3 u4 u5 u6 u7 u8 u9 u10 u11 u12 u13 u14 u15 u16 u17 u18 u19 u20 u21 u22 u23 u24 u25 u26 u27 u28 u29 u30 u37 u38 u39 u40 u41 u42 u43 u44 u45 u46 u47 u48 u49 u50 u51 u52 u53 u54 u55 u56 u57 u58 u59 u60 u61 u62 u63 u64 u65 u66 u67 u68 u69 u70 u71 u72 u73 u74 u75 u76 u77 u78 u79 u80 u81 u82 u83 u84 u85 u86 u87 u88 u89 u90 u91 u92 u93 u94 u95 u96 u97 u98 u99 u100 u101 u102 u103 u104 u105 u106 u107 u108 u109 u110 u111 u112 u113 u114 u115 u116 u117 u118 u119 u120 u121 u122 u123 u124 u125 u126 u127 u128 u129 u130 u131 u132 u133 u134 u135 u136 u137 u138 u139 u140 u141 u142 u143 u144 u145 u146 u147 u148 u149 u150 u151 u152 u153 u154 u155 u156 u157 u158 u159 u160 u161 u162 u163 u164 u165 u166 u167 u168 u169 u170 u171 u172 u173 u174 u175 u176 u177 u178 u179 u180 u181 u182 u183 u184 u185 u186 u187 u188 u189 u190 u191 u192 u193 u194 u195 u196 u197 u198 u199 u200 u201 u202 u203 u204 u205 u206 u207 u208 u209 u210 u211 u212 u213 u214 u215 u216 u217 u218 u219 u220 u221 u222 u223 u224 u225 u226 u227 u228 u229 u230 u231 u232 u233 u234 u235 u236 u237 u238 u239 u240 u241 u242 u243 u244 u245 u246 u247 u248 u249 u250 u251 u252 u253 u254 u255 u256 u257 u258 u259 u260 u261 u262 u263 u264 u265 u266 u267 u268 u269 u270 u271 u272 u273 u274 u275 u276 u277 u278 u279 u280 u281 u282 u283 u284 u285 u286 u287 u288 u289 u290 u291 u292 u293 u294 u295 u296 u297 u298 u299 u300 u301 u302 u303 u304 u305 u306 u307 u308 u309 u310 u311 u312 u313 u314 u315 u316 u317 u318 : Value} (C : Code) (hC : C = (sndSeq (sndSeq (sndSeq (sndSeq (sndSeq (sndSeq (sndSeq (sndSeq (sndSeq (sndSeq (sndSeq (sndSeq (sndSeq (sndSeq (sndSeq (sndSeq (sndSeq (sndSeq (sndSeq (sndSeq (sndSeq (sndSeq (sndSeq (sndSeq (sndSeq (sndSeq (sndSeq (sndSeq (sndSeq (sndSeq (sndSeq (sndSeq (sndSeq (sndSeq (sndSeq (Try.f3.body.getD .skip))))))))))))))))))))))))))))))))))))) (w0 W0 W : World) (a0 : Int) (acc : List (Int × Int)) (b cm gm : Nat) (sl : Value) (L : List (Int × Int)) (x : Option Addr) (N c B : Nat) (p M g3 g4 : Nat) (g5 g6 : Nat)
    (hbel : Below w0.heap.size w0 W0) (HD : Hid (Done w0 W0 b cm gm B (.slice x N c) L acc)) (HN : Hid (N = L.length)) (HV : Hid (Vw w0 W0 p b cm gm (.int .u64 a0) sl (.slice none 0 0) (.slice none 0 0) (.slice x N c))) (HT : Hid (Two W0 (some ⟨g3, 0, none⟩) (some ⟨g4, 0, none⟩) acc)) (HM : Hid (M = acc.length)) (lM : M ≤ 4097) (hk : Kept [] W0 W) (b5 : W0.heap.size ≤ g5) (b6 : W0.heap.size ≤ g6) (b56 : g5 ≠ g6) (H5 : Hid (Row w0 W .i64 3 Prod.fst g5 N 0 L)) (H6 : Hid (Row w0 W .u64 22 Prod.snd g6 N 0 L)) :
    C.wp Try.prog (bodyPost Try.prog Try.f3 fun e w' => e = .returned (.bool true) ∧ Below w0.heap.size w0 w') ⟨#[.int .u64 a0, u1, u2, u3, u4, u5, u6, u7, u8, u9, u10, u11, u12, u13, u14, u15, u16, u17, u18, u19, u20, u21, u22, u23, u24, u25, u26, u27, u28, u29, u30, .pointer (some ⟨p, 0, none⟩), .slice (some ⟨g3, 0, none⟩) M M, .slice (some ⟨g4, 0, none⟩) M M, .int .i64 N, .slice (some ⟨g5, 0, none⟩) N N, .slice (some ⟨g6, 0, none⟩) N N, u37, u38, u39, u40, u41, u42, u43, u44, u45, u46, u47, u48, u49, u50, u51, u52, u53, u54, u55, u56, u57, u58, u59, u60, u61, u62, u63, u64, u65, u66, u67, u68, u69, u70, u71, u72, u73, u74, u75, u76, u77, u78, u79, u80, u81, u82, u83, u84, u85, u86, u87, u88, u89, u90, u91, u92, u93, u94, u95, u96, u97, u98, u99, u100, u101, u102, u103, u104, u105, u106, u107, u108, u109, u110, u111, u112, u113, u114, u115, u116, u117, u118, u119, u120, u121, u122, u123, u124, u125, u126, u127, u128, u129, u130, u131, u132, u133, u134, u135, u136, u137, u138, u139, u140, u141, u142, u143, u144, u145, u146, u147, u148, u149, u150, u151, u152, u153, u154, u155, u156, u157, u158, u159, u160, u161, u162, u163, u164, u165, u166, u167, u168, u169, u170, u171, u172, u173, u174, u175, u176, u177, u178, u179, u180, u181, u182, u183, u184, u185, u186, u187, u188, u189, u190, u191, u192, u193, u194, u195, u196, u197, u198, u199, u200, u201, u202, u203, u204, u205, u206, u207, u208, u209, u210, u211, u212, u213, u214, u215, u216, u217, u218, u219, u220, u221, u222, u223, u224, u225, u226, u227, u228, u229, u230, u231, u232, u233, u234, u235, u236, u237, u238, u239, u240, u241, u242, u243, u244, u245, u246, u247, u248, u249, u250, u251, u252, u253, u254, u255, u256, u257, u258, u259, u260, u261, u262, u263, u264, u265, u266, u267, u268, u269, u270, u271, u272, u273, u274, u275, u276, u277, u278, u279, u280, u281, u282, u283, u284, u285, u286, u287, u288, u289, u290, u291, u292, u293, u294, u295, u296, u297, u298, u299, u300, u301, u302, u303, u304, u305, u306, u307, u308, u309, u310, u311, u312, u313, u314, u315, u316, u317, u318], []⟩ W := by
  simp only [Try.f3, Option.getD_some, sndSeq] at hC
  subst hC
  dsimp only
  have hNle : N ≤ 4097 := by have := fit HD.out HN.out; have := HM.out; omega
  go_upto_block 10 with fail
  go_cut [] (fun wx => Kept [] W0 wx ∧ Row w0 wx .i64 3 Prod.fst g5 N N L ∧ Row w0 wx .u64 22 Prod.snd g6 N N L)
  case first => as_aux_lemma =>
    go_upto_region 67 with fail
    go_loopw [37] (fun i wx => ∃ k : Nat, k ≤ N ∧ i = .int .i64 k ∧ Kept [] W0 wx ∧ Row w0 wx .i64 3 Prod.fst g5 N k L ∧ Row w0 wx .u64 22 Prod.snd g6 N k L) (fun i _ => N - (intOf i).toNat)
    case atStart => exact ⟨0, Nat.zero_le _, rfl, hk, H5.out, H6.out⟩
    case round =>
    obtain ⟨k, hkN, rfl, hK, r1, r2⟩ := hrel
    have R1 : Hid _ := r1
    have R2 : Hid _ := r2
    clear r1 r2
    by_cases hlt : k < N
    case pos => as_aux_lemma =>
      have hV := HV.out.kept hK (by simp)
      have c0 := hV.c0
      have c1 := hV.c1
      have c2 := hV.c2
      have c3 := hV.c3
      have c4 := hV.c4
      obtain ⟨g, hx, hg, d1, d2⟩ := (HD.out.kept hK (by simp)).at (i := k) (by have := HN.out; omega)
      subst hx
      obtain ⟨⟨x1, x2⟩, hxk⟩ : ∃ y, L.getD k (0, 0) = y := ⟨_, rfl⟩
      have Hxk : Hid (L.getD k (0, 0) = (x1, x2)) := hxk
      rw [hxk] at d1 d2
      have H11 : Hid _ := rel11 (.int .u64 a0) sl (.slice none 0 0) (.slice none 0 0) g N c k x1 x2 wr hlt hg d1 d2
      clear hV d1 d2 hxk hg
      go_wp2_with fail
      refine (show Calls _ _ _ _ _ from H11.out).mono ?_
      rintro e w1 ⟨rfl, hk1⟩
      clear c0 c1 c2 c3 c4 H11
      have hK1 : Kept [] W0 w1 := hK.trans hk1
      have r1 := R1.out.kept hk1 (by simp)
      have r2 := R2.out.kept hk1 (by simp)
      have hk2 : Kept [g5] w1 (w1.setCell ⟨g5, k, none⟩ (.int .i64 x1)) := (Kept.refl _ _).setCell (.inl (by simp)) _
      have r2' := r2.kept hk2 (by simpa using Ne.symm b56)
      have hk3 : Kept [g6] (w1.setCell ⟨g5, k, none⟩ (.int .i64 x1)) ((w1.setCell ⟨g5, k, none⟩ (.int .i64 x1)).setCell ⟨g6, k, none⟩ (.int .u64 x2)) := (Kept.refl _ _).setCell (.inl (by simp)) _
      have Q1 : Hid _ := (r1.set hlt (y := x1) (by rw [Hxk.out])).kept hk3 (by simpa using b56)
      have Q2 : Hid _ := r2'.set hlt (y := x2) (by rw [Hxk.out])
      have hK3 : Hid _ := (hK1.trans' hk2 (by simpa using b5)).trans' hk3 (by simpa using b6)
      obtain ⟨⟨y1, e1⟩, f1⟩ := r1.room hlt
      obtain ⟨⟨y2, e2⟩, f2⟩ := r2'.room hlt
      clear r1 r2 r2' hk1 hk2 hk3 hK hK1
      go_wp2
      go_roundw
      case rel => exact ⟨k + 1, by omega, by go_num, hK3.out, Q1.out, Q2.out⟩
      case measure => simp [intOf]; omega
    obtain rfl : k = N := by omega
    go_wp2
    go_meet
    exact ⟨hK, R1.out, R2.out⟩
  case rest => as_aux_lemma =>
  obtain ⟨hK, r1, r2⟩ := hcut
  have hA : Hid _ := are12 (some ⟨g5, 0, none⟩) N (some ⟨g6, 0, none⟩) N L (some ⟨g3, 0, none⟩) M (some ⟨g4, 0, none⟩) M acc wc (two_rows r1 r2 HN.out) (HT.out.kept0 hK) (by have := HM.out; omega) HD.out.asc HD.out.mem
  rw [← HN.out, ← HM.out] at hA
  refine (show ∀ a w, Code.wp Try.prog _ _ a w → _ from by assumption) _ _ ?_
  exact t72 _ (by rfl) w0 wc a0 b cm gm p M N g3 g4 g5 g6 _ _ _ _ (hK.below hbel hbel.size (by simp)) (show Hid _ from HV.out.kept hK (by simp)) hA

/-! ### the makes of regions 64 and 65 -/
set_option maxRecDepth 100000 in
set_option maxHeartbeats 8000000 in
theorem t64 {u1 u2 u3 u4 u5 u6 u7 u8 u9 u10 u11 u12 u13 u14 u15 u16 u17 u18 u19 u20 u21 u22 u23 u24 u25 u26 u27 u28 u29 u30 u35 u36 u37 u38 u39 u40 u41 u42 u43 u44 u45 u46 u47 u48 u49 u50 u51 u52 u53 u54 u55 u56 u57 u58 u59 u60 u61 u62 u63 u64 u65 u66 u67 u68 u69 u70 u71 u72 u73 u74 u75 u76 u77 u78 u79 u80 u81 u82 u83 u84 u85 u86 u87 u88 u89 u90 u91 u92 u93 u94 u95 u96 u97 u98 u99 u100 u101 u102 u103 u104 u105 u106 u107 u108 u109 u110 u111 u112 u113 u114 u115 u116 u117 u118 u119 u120 u121 u122 u123 u124 u125 u126 u127 u128 u129 u130 u131 u132 u133 u134 u135 u136 u137 u138 u139 u140 u141 u142 u143 u144 u145 u146 u147 u148 u149 u150 u151 u152 u153 u154 u155 u156 u157 u158 u159 u160 u161 u162 u163 u164 u165 u166 u167 u168 u169 u170 u171 u172 u173 u174 u175 u176 u177 u178 u179 u180 u181 u182 u183 u184 u185 u186 u187 u188 u189 u190 u191 u192 u193 u194 u195 u196 u197 u198 u199 u200 u201 u202 u203 u204 u205 u206 u207 u208 u209 u210 u211 u212 u213 u214 u215 u216 u217 u218 u219 u220 u221 u222 u223 u224 u225 u226 u227 u228 u229 u230 u231 u232 u233 u234 u235 u236 u237 u238 u239 u240 u241 u242 u243 u244 u245 u246 u247 u248 u249 u250 u251 u252 u253 u254 u255 u256 u257 u258 u259 u260 u261 u262 u263 u264 u265 u266 u267 u268 u269 u270 u271 u272 u273 u274 u275 u276 u277 u278 u279 u280 u281 u282 u283 u284 u285 u286 u287 u288 u289 u290 u291 u292 u293 u294 u295 u296 u297 u298 u299 u300 u301 u302 u303 u304 u305 u306 u307 u308 u309 u310 u311 u312 u313 u314 u315 u316 u317 u318 : Value} (C : Code) (hC : C = (sndSeq (sndSeq (sndSeq (sndSeq (sndSeq (sndSeq (sndSeq (sndSeq (sndSeq (sndSeq (sndSeq (sndSeq (sndSeq (sndSeq (sndSeq (sndSeq (sndSeq (sndSeq (sndSeq (sndSeq (sndSeq (sndSeq (sndSeq (sndSeq (sndSeq (sndSeq (sndSeq (sndSeq (sndSeq (sndSeq (sndSeq (sndSeq (sndSeq (Try.f3.body.getD .skip))))))))))))))))))))))))))))))))))) (w0 W0 W : World) (a0 : Int) (acc : List (Int × Int)) (b cm gm : Nat) (sl : Value) (L : List (Int × Int)) (x : Option Addr) (N c B : Nat) (p M g3 g4 : Nat)
    (hbel : Below w0.heap.size w0 W0) (HD : Hid (Done w0 W0 b cm gm B (.slice x N c) L acc)) (HN : Hid (N = L.length)) (HV : Hid (Vw w0 W0 p b cm gm (.int .u64 a0) sl (.slice none 0 0) (.slice none 0 0) (.slice x N c))) (HT : Hid (Two W0 (some ⟨g3, 0, none⟩) (some ⟨g4, 0, none⟩) acc)) (HM : Hid (M = acc.length)) (lM : M ≤ 4097) (hk : Kept [] W0 W) :
    C.wp Try.prog (bodyPost Try.prog Try.f3 fun e w' => e = .returned (.bool true) ∧ Below w0.heap.size w0 w') ⟨#[.int .u64 a0, u1, u2, u3, u4, u5, u6, u7, u8, u9, u10, u11, u12, u13, u14, u15, u16, u17, u18, u19, u20, u21, u22, u23, u24, u25, u26, u27, u28, u29, u30, .pointer (some ⟨p, 0, none⟩), .slice (some ⟨g3, 0, none⟩) M M, .slice (some ⟨g4, 0, none⟩) M M, .int .i64 N, u35, u36, u37, u38, u39, u40, u41, u42, u43, u44, u45, u46, u47, u48, u49, u50, u51, u52, u53, u54, u55, u56, u57, u58, u59, u60, u61, u62, u63, u64, u65, u66, u67, u68, u69, u70, u71, u72, u73, u74, u75, u76, u77, u78, u79, u80, u81, u82, u83, u84, u85, u86, u87, u88, u89, u90, u91, u92, u93, u94, u95, u96, u97, u98, u99, u100, u101, u102, u103, u104, u105, u106, u107, u108, u109, u110, u111, u112, u113, u114, u115, u116, u117, u118, u119, u120, u121, u122, u123, u124, u125, u126, u127, u128, u129, u130, u131, u132, u133, u134, u135, u136, u137, u138, u139, u140, u141, u142, u143, u144, u145, u146, u147, u148, u149, u150, u151, u152, u153, u154, u155, u156, u157, u158, u159, u160, u161, u162, u163, u164, u165, u166, u167, u168, u169, u170, u171, u172, u173, u174, u175, u176, u177, u178, u179, u180, u181, u182, u183, u184, u185, u186, u187, u188, u189, u190, u191, u192, u193, u194, u195, u196, u197, u198, u199, u200, u201, u202, u203, u204, u205, u206, u207, u208, u209, u210, u211, u212, u213, u214, u215, u216, u217, u218, u219, u220, u221, u222, u223, u224, u225, u226, u227, u228, u229, u230, u231, u232, u233, u234, u235, u236, u237, u238, u239, u240, u241, u242, u243, u244, u245, u246, u247, u248, u249, u250, u251, u252, u253, u254, u255, u256, u257, u258, u259, u260, u261, u262, u263, u264, u265, u266, u267, u268, u269, u270, u271, u272, u273, u274, u275, u276, u277, u278, u279, u280, u281, u282, u283, u284, u285, u286, u287, u288, u289, u290, u291, u292, u293, u294, u295, u296, u297, u298, u299, u300, u301, u302, u303, u304, u305, u306, u307, u308, u309, u310, u311, u312, u313, u314, u315, u316, u317, u318], []⟩ W := by
  simp only [Try.f3, Option.getD_some, sndSeq] at hC
  subst hC
  dsimp only
  have hNle : N ≤ 4097 := by have := fit HD.out HN.out; have := HM.out; omega
  have hlo := hbel.size
  obtain ⟨i3, hi3, hz30, hz31, hz32⟩ := info_parts info3
  obtain ⟨i22, hi22, hz20, hz21, hz22⟩ := info_parts info22
  have hsz := hk.size
  go_upto_region 64 with fail
  go_cut [35] (fun s wx => ∃ g, s = .slice (some ⟨g, 0, none⟩) (N) (N) ∧ Row w0 wx .i64 3 Prod.fst g (N) 0 L ∧ W0.heap.size ≤ g ∧ Kept [] W0 wx)
  case first => as_aux_lemma =>
    go_wp2_with (at_make; refine wpList_make_full _ rfl _ _ 24 rfl W.heap.size 3 i3 (.int .i64 0) 1 Try.underlying24 hi3 hz30 hz31 _ _ _ _ (N) rfl rfl rfl rfl (by rw [hz32]; omega) (by unfold maxLen; omega) (Nat.le_refl _) ?_)
    intro w2 hown hg2
    have hrow : Hid (Row w0 w2 .i64 3 Prod.fst W.heap.size (N) 0 L) := Row.made hown (by omega)
    have hk2 : Hid (Kept [] W0 w2) := hk.trans ((Kept.refl _ _).grown hg2 (by simp))
    clear hown hg2
    go_wp2
    go_meet
    exact ⟨_, rfl, hrow.out, hsz, hk2.out⟩
  case rest => as_aux_lemma =>
  obtain ⟨g1, rfl, r1, hg1, hk1⟩ := hcut
  have R1 : Hid _ := r1
  have hsz1 := hk1.size
  have hlt1 := r1.lt
  clear r1
  obtain ⟨W1, hW1⟩ : ∃ W1, W1 = wc := ⟨_, rfl⟩
  subst hW1
  go_upto_region 65 with fail
  go_cut [36] (fun s wx => ∃ g, s = .slice (some ⟨g, 0, none⟩) (N) (N) ∧ Row w0 wx .i64 3 Prod.fst g1 (N) 0 L ∧ Row w0 wx .u64 22 Prod.snd g (N) 0 L ∧ W0.heap.size ≤ g ∧ g1 ≠ g ∧ Kept [] W0 wx)
  case first => as_aux_lemma =>
    go_wp2_with (at_make; refine wpList_make_full _ rfl _ _ 23 rfl W1.heap.size 22 i22 (.int .u64 0) 1 Try.underlying23 hi22 hz20 hz21 _ _ _ _ (N) rfl rfl rfl rfl (by rw [hz22]; omega) (by unfold maxLen; omega) (Nat.le_refl _) ?_)
    intro w2 hown hg2
    have hrow : Hid (Row w0 w2 .u64 22 Prod.snd W1.heap.size (N) 0 L) := Row.made hown (by omega)
    have hk2 : Hid (Kept [] W0 w2) := hk1.trans ((Kept.refl _ _).grown hg2 (by simp))
    have hrow1 : Hid (Row w0 w2 .i64 3 Prod.fst g1 (N) 0 L) := R1.out.kept (S := []) ((Kept.refl _ _).grown hg2 (by simp)) (by simp)
    clear hown hg2
    go_wp2
    go_meet
    exact ⟨_, rfl, hrow1.out, hrow.out, hsz1, by omega, hk2.out⟩
  case rest => as_aux_lemma =>
  obtain ⟨g2, rfl, r1, r2, hg2, h12, hk2⟩ := hcut
  refine (show ∀ a w, Code.wp Try.prog _ _ a w → _ from by assumption) _ _ ?_
  exact t66 _ (by rfl) w0 W0 wc a0 acc b cm gm sl L x N c B p M g3 g4 g1 g2 hbel HD HN HV HT HM lM hk2 hg1 hg2 h12 r1 r2

/-! ### regions 61 and 62 -/
set_option maxRecDepth 100000 in
set_option maxHeartbeats 8000000 in
theorem t61 {u1 u2 u3 u4 u5 u6 u7 u8 u9 u10 u11 u12 u13 u14 u15 u16 u17 u18 u19 u20 u21 u22 u23 u24 u25 u26 u27 u28 u29 u30 u34 u35 u36 u37 u38 u39 u40 u41 u42 u43 u44 u45 u46 u47 u48 u49 u50 u51 u52 u53 u54 u55 u56 u57 u58 u59 u60 u61 u62 u63 u64 u65 u66 u67 u68 u69 u70 u71 u72 u73 u74 u75 u76 u77 u78 u79 u80 u81 u82 u83 u84 u85 u86 u87 u88 u89 u90 u91 u92 u93 u94 u95 u96 u97 u98 u99 u100 u101 u102 u103 u104 u105 u106 u107 u108 u109 u110 u111 u112 u113 u114 u115 u116 u117 u118 u119 u120 u121 u122 u123 u124 u125 u126 u127 u128 u129 u130 u131 u132 u133 u134 u135 u136 u137 u138 u139 u140 u141 u142 u143 u144 u145 u146 u147 u148 u149 u150 u151 u152 u153 u154 u155 u156 u157 u158 u159 u160 u161 u162 u163 u164 u165 u166 u167 u168 u169 u170 u171 u172 u173 u174 u175 u176 u177 u178 u179 u180 u181 u182 u183 u184 u185 u186 u187 u188 u189 u190 u191 u192 u193 u194 u195 u196 u197 u198 u199 u200 u201 u202 u203 u204 u205 u206 u207 u208 u209 u210 u211 u212 u213 u214 u215 u216 u217 u218 u219 u220 u221 u222 u223 u224 u225 u226 u227 u228 u229 u230 u231 u232 u233 u234 u235 u236 u237 u238 u239 u240 u241 u242 u243 u244 u245 u246 u247 u248 u249 u250 u251 u252 u253 u254 u255 u256 u257 u258 u259 u260 u261 u262 u263 u264 u265 u266 u267 u268 u269 u270 u271 u272 u273 u274 u275 u276 u277 u278 u279 u280 u281 u282 u283 u284 u285 u286 u287 u288 u289 u290 u291 u292 u293 u294 u295 u296 u297 u298 u299 u300 u301 u302 u303 u304 u305 u306 u307 u308 u309 u310 u311 u312 u313 u314 u315 u316 u317 u318 : Value} (C : Code) (hC : C = (sndSeq (sndSeq (sndSeq (sndSeq (sndSeq (sndSeq (sndSeq (sndSeq (sndSeq (sndSeq (sndSeq (sndSeq (sndSeq (sndSeq (sndSeq (sndSeq (sndSeq (sndSeq (sndSeq (sndSeq (sndSeq (sndSeq (sndSeq (sndSeq (sndSeq (sndSeq (sndSeq (sndSeq (sndSeq (sndSeq (sndSeq (Try.f3.body.getD .skip))))))))))))))))))))))))))))))))) (w0 W0 W : World) (a0 : Int) (acc : List (Int × Int)) (b cm gm : Nat) (sl : Value) (L : List (Int × Int)) (x : Option Addr) (N c B : Nat) (p M g3 g4 : Nat)
    (hbel : Below w0.heap.size w0 W0) (HD : Hid (Done w0 W0 b cm gm B (.slice x N c) L acc)) (HN : Hid (N = L.length)) (HV : Hid (Vw w0 W0 p b cm gm (.int .u64 a0) sl (.slice none 0 0) (.slice none 0 0) (.slice x N c))) (HT : Hid (Two W0 (some ⟨g3, 0, none⟩) (some ⟨g4, 0, none⟩) acc)) (HM : Hid (M = acc.length)) (lM : M ≤ 4097) (hk : Kept [] W0 W) :
    C.wp Try.prog (bodyPost Try.prog Try.f3 fun e w' => e = .returned (.bool true) ∧ Below w0.heap.size w0 w') ⟨#[.int .u64 a0, u1, u2, u3, u4, u5, u6, u7, u8, u9, u10, u11, u12, u13, u14, u15, u16, u17, u18, u19, u20, u21, u22, u23, u24, u25, u26, u27, u28, u29, u30, .pointer (some ⟨p, 0, none⟩), .slice (some ⟨g3, 0, none⟩) M M, .slice (some ⟨g4, 0, none⟩) M M, u34, u35, u36, u37, u38, u39, u40, u41, u42, u43, u44, u45, u46, u47, u48, u49, u50, u51, u52, u53, u54, u55, u56, u57, u58, u59, u60, u61, u62, u63, u64, u65, u66, u67, u68, u69, u70, u71, u72, u73, u74, u75, u76, u77, u78, u79, u80, u81, u82, u83, u84, u85, u86, u87, u88, u89, u90, u91, u92, u93, u94, u95, u96, u97, u98, u99, u100, u101, u102, u103, u104, u105, u106, u107, u108, u109, u110, u111, u112, u113, u114, u115, u116, u117, u118, u119, u120, u121, u122, u123, u124, u125, u126, u127, u128, u129, u130, u131, u132, u133, u134, u135, u136, u137, u138, u139, u140, u141, u142, u143, u144, u145, u146, u147, u148, u149, u150, u151, u152, u153, u154, u155, u156, u157, u158, u159, u160, u161, u162, u163, u164, u165, u166, u167, u168, u169, u170, u171, u172, u173, u174, u175, u176, u177, u178, u179, u180, u181, u182, u183, u184, u185, u186, u187, u188, u189, u190, u191, u192, u193, u194, u195, u196, u197, u198, u199, u200, u201, u202, u203, u204, u205, u206, u207, u208, u209, u210, u211, u212, u213, u214, u215, u216, u217, u218, u219, u220, u221, u222, u223, u224, u225, u226, u227, u228, u229, u230, u231, u232, u233, u234, u235, u236, u237, u238, u239, u240, u241, u242, u243, u244, u245, u246, u247, u248, u249, u250, u251, u252, u253, u254, u255, u256, u257, u258, u259, u260, u261, u262, u263, u264, u265, u266, u267, u268, u269, u270, u271, u272, u273, u274, u275, u276, u277, u278, u279, u280, u281, u282, u283, u284, u285, u286, u287, u288, u289, u290, u291, u292, u293, u294, u295, u296, u297, u298, u299, u300, u301, u302, u303, u304, u305, u306, u307, u308, u309, u310, u311, u312, u313, u314, u315, u316, u317, u318], []⟩ W := by
  simp only [Try.f3, Option.getD_some, sndSeq] at hC
  subst hC
  dsimp only
  have hNM : N ≤ M := by have := fit HD.out HN.out; have := HM.out; omega
  go_upto_region 61 with fail
  go_cut [34] (fun s wx => s = .int .i64 N ∧ Kept [] W0 wx)
  case first => as_aux_lemma =>
    have hV := HV.out.kept hk (by simp)
    have c0 := hV.c0
    have c1 := hV.c1
    have c2 := hV.c2
    have c3 := hV.c3
    have c4 := hV.c4
    clear hV
    go_wp2_with fail
    refine (relLen10 _ _ _ _ _ _ _ _).mono ?_
    rintro e w1 ⟨rfl, hk1⟩
    clear c0 c1 c2 c3 c4
    go_wp2
    go_meet
    exact ⟨rfl, hk.trans hk1⟩
  case rest => as_aux_lemma =>
  obtain ⟨rfl, hk1⟩ := hcut
  refine (show ∀ a w, Code.wp Try.prog _ _ a w → _ from by assumption) _ _ ?_
  go_step
  go_cut [] (fun wx => Kept [] W0 wx)
  case first => as_aux_lemma =>
    go_wp2
    go_meet
    exact hk1
  case rest => as_aux_lemma =>
  refine (show ∀ a w, Code.wp Try.prog _ _ a w → _ from by assumption) _ _ ?_
  exact t64 _ (by rfl) w0 W0 wc a0 acc b cm gm sl L x N c B p M g3 g4 hbel HD HN HV HT HM lM hcut
end Go.Proofs.Qxb6614904a
