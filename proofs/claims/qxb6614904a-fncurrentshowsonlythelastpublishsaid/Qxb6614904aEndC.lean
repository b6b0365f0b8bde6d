/-
  THE MAIN WALK: from region 43 to 52.
-/
import Derived.Test.Qxb6614904aEndB
namespace Go.Proofs.Qxb6614904a
open Go.RowKit Go.Maps

/-! ### the loop of region 48 -/
set_option maxRecDepth 100000 in
set_option maxHeartbeats 8000000 in
theorem t47 {u1 u6 u7 u8 u9 u10 u11 u12 u13 u15 u16 u17 u21 u22 u23 u24 u25 u26 u28 u29 u30 u31 u32 u33 u34 u35 u36 u37 u38 u39 u40 u41 u42 u43 u44 u45 u46 u47 u48 u49 u50 u51 u52 u53 u54 u55 u56 u57 u58 u59 u60 u61 u62 u63 u64 u65 u66 u67 u68 u69 u70 u71 u72 u73 u74 u75 u76 u77 u78 u79 u80 u81 u82 u83 u84 u85 u86 u87 u88 u89 u90 u91 u92 u93 u94 u95 u96 u97 u98 u99 u100 u101 u102 u103 u104 u105 u106 u107 u108 u109 u110 u111 u112 u113 u114 u115 u116 u117 u118 u119 u120 u121 u122 u123 u124 u125 u126 u127 u128 u129 u130 u131 u132 u133 u134 u135 u136 u137 u138 u139 u140 u141 u142 u143 u144 u145 u146 u147 u148 u149 u150 u151 u152 u153 u154 u155 u156 u157 u158 u159 u160 u161 u162 u163 u164 u165 u166 u167 u168 u169 u170 u171 u172 u173 u174 u175 u176 u177 u178 u179 u180 u181 u182 u183 u184 u185 u186 u187 u188 u189 u190 u191 u192 u193 u194 u195 u196 u197 u198 u199 u200 u201 u202 u203 u204 u205 u206 u207 u208 u209 u210 u211 u212 u213 u214 u215 u216 u217 u218 u219 u220 u221 u222 u223 u224 u225 u226 u227 u228 u229 u230 u231 u232 u233 u234 u235 u236 u237 u238 u239 u240 u241 u242 u243 u244 u245 u246 u247 u248 u249 u250 u251 u252 u253 u254 u255 u256 u257 u258 u259 u260 u261 u262 u263 u264 u265 u266 u267 u268 u269 u270 u271 u272 u273 u274 u275 u276 u277 u278 u279 u280 u281 u282 u283 u284 u285 u286 u287 u288 u289 u290 u291 u292 u293 u294 u295 u296 u297 u298 u299 u300 u301 u302 u303 u304 u305 u306 u307 u308 u309 u310 u311 u312 u313 u314 u315 u316 u317 u318 : Value} (C : Code) (hC : C = (sndSeq (sndSeq (sndSeq (sndSeq (sndSeq (sndSeq (sndSeq (sndSeq (sndSeq (sndSeq (sndSeq (sndSeq (sndSeq (sndSeq (sndSeq (sndSeq (sndSeq (sndSeq (sndSeq (sndSeq (sndSeq (sndSeq (Try.f3.body.getD .skip)))))))))))))))))))))))) (w0 W0 W : World) (a0 : Int) (a2 : Option Addr) (cap2 : Nat) (a3 : Option Addr) (len3 cap3 : Nat) (a4 a5 : Int) (acc : List (Int × Int)) (b cm gm : Nat) (sl : Value) (L : List (Int × Int)) (x : Option Addr) (N c B : Nat) (p g1 g2 : Nat)
    (HR : Hid (Run w0 W0 b cm gm a0 sl (.int .u64 a0) sl (.slice none 0 0) (.slice none 0 0) (.slice x N c) (acc ++ [(a4, a5)]))) (HD : Hid (Done w0 W0 b cm gm B (.slice x N c) L acc)) (HV : Hid (Vw w0 W0 p b cm gm (.int .u64 a0) sl (.slice none 0 0) (.slice none 0 0) (.slice x N c))) (HN : Hid (N = L.length)) (lN : N ≤ len3) (HT : Hid (Two w0 a2 a3 acc)) (HL : Hid (len3 = acc.length)) (l3 : len3 ≤ 4096) (Hok : Hid (∀ x ∈ acc, okP x)) (Hx : Hid (okP (a4, a5))) (hk : Kept [] W0 W) (H1 : Hid (Row w0 W .i64 3 Prod.fst g1 N N L)) (H2 : Hid (Row w0 W .u64 22 Prod.snd g2 N N L)) :
    C.wp Try.prog (bodyPost Try.prog Try.f3 fun e w' => e = .returned (.bool true) ∧ Below w0.heap.size w0 w') ⟨#[.int .u64 a0, u1, .slice a2 len3 cap2, .slice a3 len3 cap3, .int .i64 a4, .int .u64 a5, u6, u7, u8, u9, u10, u11, u12, u13, .pointer (some ⟨b, 0, none⟩), u15, u16, u17, .int .i64 N, .slice (some ⟨g1, 0, none⟩) N N, .slice (some ⟨g2, 0, none⟩) N N, u21, u22, u23, u24, u25, u26, .pointer (some ⟨p, 0, none⟩), u28, u29, u30, u31, u32, u33, u34, u35, u36, u37, u38, u39, u40, u41, u42, u43, u44, u45, u46, u47, u48, u49, u50, u51, u52, u53, u54, u55, u56, u57, u58, u59, u60, u61, u62, u63, u64, u65, u66, u67, u68, u69, u70, u71, u72, u73, u74, u75, u76, u77, u78, u79, u80, u81, u82, u83, u84, u85, u86, u87, u88, u89, u90, u91, u92, u93, u94, u95, u96, u97, u98, u99, u100, u101, u102, u103, u104, u105, u106, u107, u108, u109, u110, u111, u112, u113, u114, u115, u116, u117, u118, u119, u120, u121, u122, u123, u124, u125, u126, u127, u128, u129, u130, u131, u132, u133, u134, u135, u136, u137, u138, u139, u140, u141, u142, u143, u144, u145, u146, u147, u148, u149, u150, u151, u152, u153, u154, u155, u156, u157, u158, u159, u160, u161, u162, u163, u164, u165, u166, u167, u168, u169, u170, u171, u172, u173, u174, u175, u176, u177, u178, u179, u180, u181, u182, u183, u184, u185, u186, u187, u188, u189, u190, u191, u192, u193, u194, u195, u196, u197, u198, u199, u200, u201, u202, u203, u204, u205, u206, u207, u208, u209, u210, u211, u212, u213, u214, u215, u216, u217, u218, u219, u220, u221, u222, u223, u224, u225, u226, u227, u228, u229, u230, u231, u232, u233, u234, u235, u236, u237, u238, u239, u240, u241, u242, u243, u244, u245, u246, u247, u248, u249, u250, u251, u252, u253, u254, u255, u256, u257, u258, u259, u260, u261, u262, u263, u264, u265, u266, u267, u268, u269, u270, u271, u272, u273, u274, u275, u276, u277, u278, u279, u280, u281, u282, u283, u284, u285, u286, u287, u288, u289, u290, u291, u292, u293, u294, u295, u296, u297, u298, u299, u300, u301, u302, u303, u304, u305, u306, u307, u308, u309, u310, u311, u312, u313, u314, u315, u316, u317, u318], []⟩ W := by
  simp only [Try.f3, Option.getD_some, sndSeq] at hC
  subst hC
  dsimp only
  have hNle : N ≤ 4097 := by omega
  go_upto_block 8 with fail
  go_cut [] (fun wx => Kept [] W wx)
  case first => as_aux_lemma =>
    go_upto_region 48 with fail
    go_loopw [28] (fun i wx => ∃ k : Nat, k ≤ N ∧ i = .int .i64 k ∧ Kept [] W wx) (fun i _ => N - (intOf i).toNat)
    case atStart => exact ⟨0, Nat.zero_le _, rfl, Kept.refl _ _⟩
    case round =>
    obtain ⟨k, hkN, rfl, hK⟩ := hrel
    by_cases hlt : k < N
    case pos => as_aux_lemma =>
      have hV := HV.out.kept (hk.trans hK) (by simp)
      have c0 := hV.c0
      have c1 := hV.c1
      have c2 := hV.c2
      have c3 := hV.c3
      have c4 := hV.c4
      obtain ⟨g, hx, hg, d1, d2⟩ := (HD.out.kept (hk.trans hK) (by simp)).at (i := k) (by have := HN.out; omega)
      subst hx
      obtain ⟨⟨x1, x2⟩, hxk⟩ : ∃ y, L.getD k (0, 0) = y := ⟨_, rfl⟩
      have Hxk : Hid (L.getD k (0, 0) = (x1, x2)) := hxk
      rw [hxk] at d1 d2
      have H11 : Hid _ := rel11 (.int .u64 a0) sl (.slice none 0 0) (.slice none 0 0) g N c k x1 x2 wr hlt hg d1 d2
      clear hV d1 d2 hxk hg
      go_wp2_with fail
      refine (show Calls _ _ _ _ _ from H11.out).mono ?_
      rintro e w1 ⟨rfl, hk1⟩
      clear c0 c1 c2 c3 c4 H11
      have hK1 : Hid (Kept [] W w1) := hK.trans hk1
      have e1 := (H1.out.kept (hK.trans hk1) (by simp)).at hlt
      have e2 := (H2.out.kept (hK.trans hk1) (by simp)).at hlt
      rw [Hxk.out] at e1 e2
      dsimp only at e1 e2
      clear hk1 hK
      go_wp2
      go_roundw
      case rel => exact ⟨k + 1, by omega, by go_num, hK1.out⟩
      case measure => simp [intOf]; omega
    go_wp2
    go_meet
    exact hK
  case rest => as_aux_lemma =>
  have hK := hk.trans hcut
  refine (show ∀ a w, Code.wp Try.prog _ _ a w → _ from by assumption) _ _ ?_
  exact t53 _ (by rfl) w0 wc a0 a2 cap2 a3 len3 cap3 a4 a5 acc b cm gm sl _ _ _ _ _ (show Hid _ from HR.out.kept hK (by simp) (by simp) (by simp) (by simp)) HT HL l3 Hok Hx

/-! ### region 45 -/
set_option maxRecDepth 100000 in
set_option maxHeartbeats 8000000 in
theorem t45 {u1 u6 u7 u8 u9 u10 u11 u12 u13 u15 u16 u17 u21 u22 u23 u24 u25 u26 u28 u29 u30 u31 u32 u33 u34 u35 u36 u37 u38 u39 u40 u41 u42 u43 u44 u45 u46 u47 u48 u49 u50 u51 u52 u53 u54 u55 u56 u57 u58 u59 u60 u61 u62 u63 u64 u65 u66 u67 u68 u69 u70 u71 u72 u73 u74 u75 u76 u77 u78 u79 u80 u81 u82 u83 u84 u85 u86 u87 u88 u89 u90 u91 u92 u93 u94 u95 u96 u97 u98 u99 u100 u101 u102 u103 u104 u105 u106 u107 u108 u109 u110 u111 u112 u113 u114 u115 u116 u117 u118 u119 u120 u121 u122 u123 u124 u125 u126 u127 u128 u129 u130 u131 u132 u133 u134 u135 u136 u137 u138 u139 u140 u141 u142 u143 u144 u145 u146 u147 u148 u149 u150 u151 u152 u153 u154 u155 u156 u157 u158 u159 u160 u161 u162 u163 u164 u165 u166 u167 u168 u169 u170 u171 u172 u173 u174 u175 u176 u177 u178 u179 u180 u181 u182 u183 u184 u185 u186 u187 u188 u189 u190 u191 u192 u193 u194 u195 u196 u197 u198 u199 u200 u201 u202 u203 u204 u205 u206 u207 u208 u209 u210 u211 u212 u213 u214 u215 u216 u217 u218 u219 u220 u221 u222 u223 u224 u225 u226 u227 u228 u229 u230 u231 u232 u233 u234 u235 u236 u237 u238 u239 u240 u241 u242 u243 u244 u245 u246 u247 u248 u249 u250 u251 u252 u253 u254 u255 u256 u257 u258 u259 u260 u261 u262 u263 u264 u265 u266 u267 u268 u269 u270 u271 u272 u273 u274 u275 u276 u277 u278 u279 u280 u281 u282 u283 u284 u285 u286 u287 u288 u289 u290 u291 u292 u293 u294 u295 u296 u297 u298 u299 u300 u301 u302 u303 u304 u305 u306 u307 u308 u309 u310 u311 u312 u313 u314 u315 u316 u317 u318 : Value} (C : Code) (hC : C = (sndSeq (sndSeq (sndSeq (sndSeq (sndSeq (sndSeq (sndSeq (sndSeq (sndSeq (sndSeq (sndSeq (sndSeq (sndSeq (sndSeq (sndSeq (sndSeq (sndSeq (sndSeq (sndSeq (sndSeq (sndSeq (Try.f3.body.getD .skip))))))))))))))))))))))) (w0 W0 W : World) (a0 : Int) (a2 : Option Addr) (cap2 : Nat) (a3 : Option Addr) (len3 cap3 : Nat) (a4 a5 : Int) (acc : List (Int × Int)) (b cm gm : Nat) (sl : Value) (L : List (Int × Int)) (x : Option Addr) (N c B : Nat) (p g1 g2 : Nat)
    (HR : Hid (Run w0 W0 b cm gm a0 sl (.int .u64 a0) sl (.slice none 0 0) (.slice none 0 0) (.slice x N c) (acc ++ [(a4, a5)]))) (HD : Hid (Done w0 W0 b cm gm B (.slice x N c) L acc)) (HV : Hid (Vw w0 W0 p b cm gm (.int .u64 a0) sl (.slice none 0 0) (.slice none 0 0) (.slice x N c))) (HN : Hid (N = L.length)) (lN : N ≤ len3) (HT : Hid (Two w0 a2 a3 acc)) (HL : Hid (len3 = acc.length)) (l3 : len3 ≤ 4096) (Hok : Hid (∀ x ∈ acc, okP x)) (Hx : Hid (okP (a4, a5))) (hk : Kept [] W0 W) (H1 : Hid (Row w0 W .i64 3 Prod.fst g1 N N L)) (H2 : Hid (Row w0 W .u64 22 Prod.snd g2 N N L)) :
    C.wp Try.prog (bodyPost Try.prog Try.f3 fun e w' => e = .returned (.bool true) ∧ Below w0.heap.size w0 w') ⟨#[.int .u64 a0, u1, .slice a2 len3 cap2, .slice a3 len3 cap3, .int .i64 a4, .int .u64 a5, u6, u7, u8, u9, u10, u11, u12, u13, .pointer (some ⟨b, 0, none⟩), u15, u16, u17, .int .i64 N, .slice (some ⟨g1, 0, none⟩) N N, .slice (some ⟨g2, 0, none⟩) N N, u21, u22, u23, u24, u25, u26, .pointer (some ⟨p, 0, none⟩), u28, u29, u30, u31, u32, u33, u34, u35, u36, u37, u38, u39, u40, u41, u42, u43, u44, u45, u46, u47, u48, u49, u50, u51, u52, u53, u54, u55, u56, u57, u58, u59, u60, u61, u62, u63, u64, u65, u66, u67, u68, u69, u70, u71, u72, u73, u74, u75, u76, u77, u78, u79, u80, u81, u82, u83, u84, u85, u86, u87, u88, u89, u90, u91, u92, u93, u94, u95, u96, u97, u98, u99, u100, u101, u102, u103, u104, u105, u106, u107, u108, u109, u110, u111, u112, u113, u114, u115, u116, u117, u118, u119, u120, u121, u122, u123, u124, u125, u126, u127, u128, u129, u130, u131, u132, u133, u134, u135, u136, u137, u138, u139, u140, u141, u142, u143, u144, u145, u146, u147, u148, u149, u150, u151, u152, u153, u154, u155, u156, u157, u158, u159, u160, u161, u162, u163, u164, u165, u166, u167, u168, u169, u170, u171, u172, u173, u174, u175, u176, u177, u178, u179, u180, u181, u182, u183, u184, u185, u186, u187, u188, u189, u190, u191, u192, u193, u194, u195, u196, u197, u198, u199, u200, u201, u202, u203, u204, u205, u206, u207, u208, u209, u210, u211, u212, u213, u214, u215, u216, u217, u218, u219, u220, u221, u222, u223, u224, u225, u226, u227, u228, u229, u230, u231, u232, u233, u234, u235, u236, u237, u238, u239, u240, u241, u242, u243, u244, u245, u246, u247, u248, u249, u250, u251, u252, u253, u254, u255, u256, u257, u258, u259, u260, u261, u262, u263, u264, u265, u266, u267, u268, u269, u270, u271, u272, u273, u274, u275, u276, u277, u278, u279, u280, u281, u282, u283, u284, u285, u286, u287, u288, u289, u290, u291, u292, u293, u294, u295, u296, u297, u298, u299, u300, u301, u302, u303, u304, u305, u306, u307, u308, u309, u310, u311, u312, u313, u314, u315, u316, u317, u318], []⟩ W := by
  simp only [Try.f3, Option.getD_some, sndSeq] at hC
  subst hC
  dsimp only
  go_step
  go_step
  go_cut [] (fun wx => Kept [] W wx)
  case first => as_aux_lemma =>
    have hV := HV.out.kept hk (by simp)
    have c0 := hV.c0
    have c1 := hV.c1
    have c2 := hV.c2
    have c3 := hV.c3
    have c4 := hV.c4
    clear hV
    go_wp2_with fail
    refine (relLen10 _ _ _ _ _ _ _ _).mono ?_
    rintro e w1 ⟨rfl, hk1⟩
    clear c0 c1 c2 c3 c4
    go_wp2
    go_meet
    exact hk1
  case rest => as_aux_lemma =>
  refine (show ∀ a w, Code.wp Try.prog _ _ a w → _ from by assumption) _ _ ?_
  exact t47 _ (by rfl) w0 W0 wc a0 a2 cap2 a3 len3 cap3 a4 a5 acc b cm gm sl L x N c B p g1 g2 HR HD HV HN lN HT HL l3 Hok Hx (hk.trans hcut) (show Hid _ from H1.out.kept hcut (by simp)) (show Hid _ from H2.out.kept hcut (by simp))

/-! ### region 44 -/
set_option maxRecDepth 100000 in
set_option maxHeartbeats 8000000 in
theorem t44 {u1 u6 u7 u8 u9 u10 u11 u12 u13 u15 u16 u17 u21 u22 u23 u24 u25 u26 u27 u28 u29 u30 u31 u32 u33 u34 u35 u36 u37 u38 u39 u40 u41 u42 u43 u44 u45 u46 u47 u48 u49 u50 u51 u52 u53 u54 u55 u56 u57 u58 u59 u60 u61 u62 u63 u64 u65 u66 u67 u68 u69 u70 u71 u72 u73 u74 u75 u76 u77 u78 u79 u80 u81 u82 u83 u84 u85 u86 u87 u88 u89 u90 u91 u92 u93 u94 u95 u96 u97 u98 u99 u100 u101 u102 u103 u104 u105 u106 u107 u108 u109 u110 u111 u112 u113 u114 u115 u116 u117 u118 u119 u120 u121 u122 u123 u124 u125 u126 u127 u128 u129 u130 u131 u132 u133 u134 u135 u136 u137 u138 u139 u140 u141 u142 u143 u144 u145 u146 u147 u148 u149 u150 u151 u152 u153 u154 u155 u156 u157 u158 u159 u160 u161 u162 u163 u164 u165 u166 u167 u168 u169 u170 u171 u172 u173 u174 u175 u176 u177 u178 u179 u180 u181 u182 u183 u184 u185 u186 u187 u188 u189 u190 u191 u192 u193 u194 u195 u196 u197 u198 u199 u200 u201 u202 u203 u204 u205 u206 u207 u208 u209 u210 u211 u212 u213 u214 u215 u216 u217 u218 u219 u220 u221 u222 u223 u224 u225 u226 u227 u228 u229 u230 u231 u232 u233 u234 u235 u236 u237 u238 u239 u240 u241 u242 u243 u244 u245 u246 u247 u248 u249 u250 u251 u252 u253 u254 u255 u256 u257 u258 u259 u260 u261 u262 u263 u264 u265 u266 u267 u268 u269 u270 u271 u272 u273 u274 u275 u276 u277 u278 u279 u280 u281 u282 u283 u284 u285 u286 u287 u288 u289 u290 u291 u292 u293 u294 u295 u296 u297 u298 u299 u300 u301 u302 u303 u304 u305 u306 u307 u308 u309 u310 u311 u312 u313 u314 u315 u316 u317 u318 : Value} (C : Code) (hC : C = (sndSeq (sndSeq (sndSeq (sndSeq (sndSeq (sndSeq (sndSeq (sndSeq (sndSeq (sndSeq (sndSeq (sndSeq (sndSeq (sndSeq (sndSeq (sndSeq (sndSeq (sndSeq (sndSeq (sndSeq (Try.f3.body.getD .skip)))))))))))))))))))))) (w0 W : World) (a0 : Int) (a2 : Option Addr) (cap2 : Nat) (a3 : Option Addr) (len3 cap3 : Nat) (a4 a5 : Int) (acc : List (Int × Int)) (b cm gm : Nat) (sl : Value) (L : List (Int × Int)) (x : Option Addr) (N c B : Nat) (g1 g2 : Nat)
    (HR : Hid (Run w0 W b cm gm a0 sl (.int .u64 a0) sl (.slice none 0 0) (.slice none 0 0) (.slice x N c) (acc ++ [(a4, a5)]))) (HD : Hid (Done w0 W b cm gm B (.slice x N c) L acc)) (HN : Hid (N = L.length)) (lN : N ≤ len3) (HT : Hid (Two w0 a2 a3 acc)) (HL : Hid (len3 = acc.length)) (l3 : len3 ≤ 4096) (Hok : Hid (∀ x ∈ acc, okP x)) (Hx : Hid (okP (a4, a5))) (H1 : Hid (Row w0 W .i64 3 Prod.fst g1 N N L)) (H2 : Hid (Row w0 W .u64 22 Prod.snd g2 N N L)) (n1 : g1 ≠ b ∧ g1 ≠ gm) (n2 : g2 ≠ b ∧ g2 ≠ gm) :
    C.wp Try.prog (bodyPost Try.prog Try.f3 fun e w' => e = .returned (.bool true) ∧ Below w0.heap.size w0 w') ⟨#[.int .u64 a0, u1, .slice a2 len3 cap2, .slice a3 len3 cap3, .int .i64 a4, .int .u64 a5, u6, u7, u8, u9, u10, u11, u12, u13, .pointer (some ⟨b, 0, none⟩), u15, u16, u17, .int .i64 N, .slice (some ⟨g1, 0, none⟩) N N, .slice (some ⟨g2, 0, none⟩) N N, u21, u22, u23, u24, u25, u26, u27, u28, u29, u30, u31, u32, u33, u34, u35, u36, u37, u38, u39, u40, u41, u42, u43, u44, u45, u46, u47, u48, u49, u50, u51, u52, u53, u54, u55, u56, u57, u58, u59, u60, u61, u62, u63, u64, u65, u66, u67, u68, u69, u70, u71, u72, u73, u74, u75, u76, u77, u78, u79, u80, u81, u82, u83, u84, u85, u86, u87, u88, u89, u90, u91, u92, u93, u94, u95, u96, u97, u98, u99, u100, u101, u102, u103, u104, u105, u106, u107, u108, u109, u110, u111, u112, u113, u114, u115, u116, u117, u118, u119, u120, u121, u122, u123, u124, u125, u126, u127, u128, u129, u130, u131, u132, u133, u134, u135, u136, u137, u138, u139, u140, u141, u142, u143, u144, u145, u146, u147, u148, u149, u150, u151, u152, u153, u154, u155, u156, u157, u158, u159, u160, u161, u162, u163, u164, u165, u166, u167, u168, u169, u170, u171, u172, u173, u174, u175, u176, u177, u178, u179, u180, u181, u182, u183, u184, u185, u186, u187, u188, u189, u190, u191, u192, u193, u194, u195, u196, u197, u198, u199, u200, u201, u202, u203, u204, u205, u206, u207, u208, u209, u210, u211, u212, u213, u214, u215, u216, u217, u218, u219, u220, u221, u222, u223, u224, u225, u226, u227, u228, u229, u230, u231, u232, u233, u234, u235, u236, u237, u238, u239, u240, u241, u242, u243, u244, u245, u246, u247, u248, u249, u250, u251, u252, u253, u254, u255, u256, u257, u258, u259, u260, u261, u262, u263, u264, u265, u266, u267, u268, u269, u270, u271, u272, u273, u274, u275, u276, u277, u278, u279, u280, u281, u282, u283, u284, u285, u286, u287, u288, u289, u290, u291, u292, u293, u294, u295, u296, u297, u298, u299, u300, u301, u302, u303, u304, u305, u306, u307, u308, u309, u310, u311, u312, u313, u314, u315, u316, u317, u318], []⟩ W := by
  simp only [Try.f3, Option.getD_some, sndSeq] at hC
  subst hC
  dsimp only
  go_upto_region 44 with fail
  go_cut [27] (fun s wx => ∃ p, s = .pointer (some ⟨p, 0, none⟩) ∧ Run w0 wx b cm gm a0 sl (.int .u64 a0) sl (.slice none 0 0) (.slice none 0 0) (.slice x N c) (acc ++ [(a4, a5)]) ∧ Done w0 wx b cm gm B (.slice x N c) L acc ∧ Vw w0 wx p b cm gm (.int .u64 a0) sl (.slice none 0 0) (.slice none 0 0) (.slice x N c) ∧ Row w0 wx .i64 3 Prod.fst g1 N N L ∧ Row w0 wx .u64 22 Prod.snd g2 N N L)
  case first => as_aux_lemma =>
    have hC : Hid _ := current9 b cm gm a0 sl _ _ _ _ _ W HR.out.st
    have hst1 := run_store_one Try.prog
    have o1 := HR.out.st.one.1
    go_wp2_with fail
    refine (show Calls _ _ _ _ _ from hC.out).mono ?_
    rintro e w1 ⟨rfl, hst, hk1⟩
    have hR1 := HR.out.view hk1 hst
    have hD1 := HD.out.kept hk1 (by simpa using HD.out.b)
    have h0 := hR1.bel.size
    have hR2 : Hid (Run w0 (w1.alloc (.cells #[.int .u64 a0, sl, .slice none 0 0, .slice none 0 0, .slice x N c] 37)) b cm gm a0 sl (.int .u64 a0) sl (.slice none 0 0) (.slice none 0 0) (.slice x N c) (acc ++ [(a4, a5)])) := hR1.kept (S := []) ((Kept.refl _ _).alloc _) (by simp) (by simp) (by simp) (by simp)
    have hD2 : Hid (Done w0 (w1.alloc (.cells #[.int .u64 a0, sl, .slice none 0 0, .slice none 0 0, .slice x N c] 37)) b cm gm B (.slice x N c) L acc) := hD1.kept (S := []) ((Kept.refl _ _).alloc _) (by simp)
    have hV2 : Hid (Vw w0 (w1.alloc (.cells #[.int .u64 a0, sl, .slice none 0 0, .slice none 0 0, .slice x N c] 37)) w1.heap.size b cm gm (.int .u64 a0) sl (.slice none 0 0) (.slice none 0 0) (.slice x N c)) := Vw.made h0 hst.lt hR1.gone.lt
    have q1 : Hid (Row w0 (w1.alloc (.cells #[.int .u64 a0, sl, .slice none 0 0, .slice none 0 0, .slice x N c] 37)) .i64 3 Prod.fst g1 N N L) := (H1.out.kept hk1 (by simpa using n1.1)).kept (S := []) ((Kept.refl _ _).alloc _) (by simp)
    have q2 : Hid (Row w0 (w1.alloc (.cells #[.int .u64 a0, sl, .slice none 0 0, .slice none 0 0, .slice x N c] 37)) .u64 22 Prod.snd g2 N N L) := (H2.out.kept hk1 (by simpa using n2.1)).kept (S := []) ((Kept.refl _ _).alloc _) (by simp)
    clear hst hR1 hD1 HR HD hC hk1
    go_wp2
    go_meet
    exact ⟨_, rfl, hR2.out, hD2.out, hV2.out, q1.out, q2.out⟩
  case rest => as_aux_lemma =>
  obtain ⟨p, rfl, hR, hD, hV, r1, r2⟩ := hcut
  refine (show ∀ a w, Code.wp Try.prog _ _ a w → _ from by assumption) _ _ ?_
  exact t45 _ (by rfl) w0 wc wc a0 a2 cap2 a3 len3 cap3 a4 a5 acc b cm gm sl L x N c B p g1 g2 hR hD hV HN lN HT HL l3 Hok Hx (Kept.refl _ _) r1 r2

/-! ### region 43 -/
set_option maxRecDepth 100000 in
set_option maxHeartbeats 8000000 in
theorem t43 {u1 u6 u7 u8 u9 u10 u11 u12 u13 u15 u16 u17 u21 u22 u23 u24 u25 u26 u27 u28 u29 u30 u31 u32 u33 u34 u35 u36 u37 u38 u39 u40 u41 u42 u43 u44 u45 u46 u47 u48 u49 u50 u51 u52 u53 u54 u55 u56 u57 u58 u59 u60 u61 u62 u63 u64 u65 u66 u67 u68 u69 u70 u71 u72 u73 u74 u75 u76 u77 u78 u79 u80 u81 u82 u83 u84 u85 u86 u87 u88 u89 u90 u91 u92 u93 u94 u95 u96 u97 u98 u99 u100 u101 u102 u103 u104 u105 u106 u107 u108 u109 u110 u111 u112 u113 u114 u115 u116 u117 u118 u119 u120 u121 u122 u123 u124 u125 u126 u127 u128 u129 u130 u131 u132 u133 u134 u135 u136 u137 u138 u139 u140 u141 u142 u143 u144 u145 u146 u147 u148 u149 u150 u151 u152 u153 u154 u155 u156 u157 u158 u159 u160 u161 u162 u163 u164 u165 u166 u167 u168 u169 u170 u171 u172 u173 u174 u175 u176 u177 u178 u179 u180 u181 u182 u183 u184 u185 u186 u187 u188 u189 u190 u191 u192 u193 u194 u195 u196 u197 u198 u199 u200 u201 u202 u203 u204 u205 u206 u207 u208 u209 u210 u211 u212 u213 u214 u215 u216 u217 u218 u219 u220 u221 u222 u223 u224 u225 u226 u227 u228 u229 u230 u231 u232 u233 u234 u235 u236 u237 u238 u239 u240 u241 u242 u243 u244 u245 u246 u247 u248 u249 u250 u251 u252 u253 u254 u255 u256 u257 u258 u259 u260 u261 u262 u263 u264 u265 u266 u267 u268 u269 u270 u271 u272 u273 u274 u275 u276 u277 u278 u279 u280 u281 u282 u283 u284 u285 u286 u287 u288 u289 u290 u291 u292 u293 u294 u295 u296 u297 u298 u299 u300 u301 u302 u303 u304 u305 u306 u307 u308 u309 u310 u311 u312 u313 u314 u315 u316 u317 u318 : Value} (C : Code) (hC : C = (sndSeq (sndSeq (sndSeq (sndSeq (sndSeq (sndSeq (sndSeq (sndSeq (sndSeq (sndSeq (sndSeq (sndSeq (sndSeq (sndSeq (sndSeq (sndSeq (sndSeq (sndSeq (sndSeq (Try.f3.body.getD .skip))))))))))))))))))))) (w0 W : World) (a0 : Int) (a2 : Option Addr) (cap2 : Nat) (a3 : Option Addr) (len3 cap3 : Nat) (a4 a5 : Int) (acc : List (Int × Int)) (b cm gm : Nat) (sl : Value) (L : List (Int × Int)) (x : Option Addr) (N c B : Nat) (g1 g2 : Nat)
    (HR : Hid (Run w0 W b cm gm a0 sl (.int .u64 a0) sl (.slice none 0 0) (.slice none 0 0) (.slice x N c) acc)) (HD : Hid (Done w0 W b cm gm B (.slice x N c) L acc)) (HN : Hid (N = L.length)) (lN : N ≤ len3) (HT : Hid (Two w0 a2 a3 acc)) (HL : Hid (len3 = acc.length)) (l3 : len3 ≤ 4096) (Hok : Hid (∀ x ∈ acc, okP x)) (Hx : Hid (okP (a4, a5))) (H1 : Hid (Row w0 W .i64 3 Prod.fst g1 N N L)) (H2 : Hid (Row w0 W .u64 22 Prod.snd g2 N N L)) (n1 : g1 ≠ b ∧ g1 ≠ gm) (n2 : g2 ≠ b ∧ g2 ≠ gm) :
    C.wp Try.prog (bodyPost Try.prog Try.f3 fun e w' => e = .returned (.bool true) ∧ Below w0.heap.size w0 w') ⟨#[.int .u64 a0, u1, .slice a2 len3 cap2, .slice a3 len3 cap3, .int .i64 a4, .int .u64 a5, u6, u7, u8, u9, u10, u11, u12, u13, .pointer (some ⟨b, 0, none⟩), u15, u16, u17, .int .i64 N, .slice (some ⟨g1, 0, none⟩) N N, .slice (some ⟨g2, 0, none⟩) N N, u21, u22, u23, u24, u25, u26, u27, u28, u29, u30, u31, u32, u33, u34, u35, u36, u37, u38, u39, u40, u41, u42, u43, u44, u45, u46, u47, u48, u49, u50, u51, u52, u53, u54, u55, u56, u57, u58, u59, u60, u61, u62, u63, u64, u65, u66, u67, u68, u69, u70, u71, u72, u73, u74, u75, u76, u77, u78, u79, u80, u81, u82, u83, u84, u85, u86, u87, u88, u89, u90, u91, u92, u93, u94, u95, u96, u97, u98, u99, u100, u101, u102, u103, u104, u105, u106, u107, u108, u109, u110, u111, u112, u113, u114, u115, u116, u117, u118, u119, u120, u121, u122, u123, u124, u125, u126, u127, u128, u129, u130, u131, u132, u133, u134, u135, u136, u137, u138, u139, u140, u141, u142, u143, u144, u145, u146, u147, u148, u149, u150, u151, u152, u153, u154, u155, u156, u157, u158, u159, u160, u161, u162, u163, u164, u165, u166, u167, u168, u169, u170, u171, u172, u173, u174, u175, u176, u177, u178, u179, u180, u181, u182, u183, u184, u185, u186, u187, u188, u189, u190, u191, u192, u193, u194, u195, u196, u197, u198, u199, u200, u201, u202, u203, u204, u205, u206, u207, u208, u209, u210, u211, u212, u213, u214, u215, u216, u217, u218, u219, u220, u221, u222, u223, u224, u225, u226, u227, u228, u229, u230, u231, u232, u233, u234, u235, u236, u237, u238, u239, u240, u241, u242, u243, u244, u245, u246, u247, u248, u249, u250, u251, u252, u253, u254, u255, u256, u257, u258, u259, u260, u261, u262, u263, u264, u265, u266, u267, u268, u269, u270, u271, u272, u273, u274, u275, u276, u277, u278, u279, u280, u281, u282, u283, u284, u285, u286, u287, u288, u289, u290, u291, u292, u293, u294, u295, u296, u297, u298, u299, u300, u301, u302, u303, u304, u305, u306, u307, u308, u309, u310, u311, u312, u313, u314, u315, u316, u317, u318], []⟩ W := by
  simp only [Try.f3, Option.getD_some, sndSeq] at hC
  subst hC
  dsimp only
  go_upto_region 43 with fail
  go_cut [] (fun wx => GoneMap wx gm (acc ++ [(a4, a5)]) ∧ Kept [gm] W wx)
  case first => as_aux_lemma =>
    have hC : Hid _ := gone7 b cm gm a0 sl _ _ _ _ _ acc (a4, a5) W HR.out.st HR.out.gone Hx.out (by have := HL.out; omega)
    go_wp2_with fail
    refine (show Calls _ _ _ _ _ from hC.out).mono ?_
    rintro e w1 ⟨rfl, hgn, hk1⟩
    have hG : Hid _ := hgn
    clear hgn hC
    go_wp2
    go_meet
    exact ⟨hG.out, hk1⟩
  case rest => as_aux_lemma =>
  obtain ⟨hG, hk⟩ := hcut
  refine (show ∀ a w, Code.wp Try.prog _ _ a w → _ from by assumption) _ _ ?_
  exact t44 _ (by rfl) w0 wc a0 a2 cap2 a3 len3 cap3 a4 a5 acc b cm gm sl L x N c B g1 g2 (show Hid _ from HR.out.put hk hG) (show Hid _ from HD.out.kept hk (by simpa using HD.out.g)) HN lN HT HL l3 Hok Hx (show Hid _ from H1.out.kept hk (by simpa using n1.2)) (show Hid _ from H2.out.kept hk (by simpa using n2.2)) n1 n2
end Go.Proofs.Qxb6614904a
