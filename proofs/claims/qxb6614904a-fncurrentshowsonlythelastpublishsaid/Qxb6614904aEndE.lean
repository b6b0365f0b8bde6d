/-
  THE MAIN WALK: from region 21 to 26.
-/
import Derived.Test.Qxb6614904aEndD
namespace Go.Proofs.Qxb6614904a
open Go.RowKit Go.Maps

/-! ### region 25 -/
set_option maxRecDepth 100000 in
set_option maxHeartbeats 8000000 in
theorem t25 {u1 u6 u7 u8 u9 u10 u11 u12 u13 u15 u19 u20 u21 u22 u23 u24 u25 u26 u27 u28 u29 u30 u31 u32 u33 u34 u35 u36 u37 u38 u39 u40 u41 u42 u43 u44 u45 u46 u47 u48 u49 u50 u51 u52 u53 u54 u55 u56 u57 u58 u59 u60 u61 u62 u63 u64 u65 u66 u67 u68 u69 u70 u71 u72 u73 u74 u75 u76 u77 u78 u79 u80 u81 u82 u83 u84 u85 u86 u87 u88 u89 u90 u91 u92 u93 u94 u95 u96 u97 u98 u99 u100 u101 u102 u103 u104 u105 u106 u107 u108 u109 u110 u111 u112 u113 u114 u115 u116 u117 u118 u119 u120 u121 u122 u123 u124 u125 u126 u127 u128 u129 u130 u131 u132 u133 u134 u135 u136 u137 u138 u139 u140 u141 u142 u143 u144 u145 u146 u147 u148 u149 u150 u151 u152 u153 u154 u155 u156 u157 u158 u159 u160 u161 u162 u163 u164 u165 u166 u167 u168 u169 u170 u171 u172 u173 u174 u175 u176 u177 u178 u179 u180 u181 u182 u183 u184 u185 u186 u187 u188 u189 u190 u191 u192 u193 u194 u195 u196 u197 u198 u199 u200 u201 u202 u203 u204 u205 u206 u207 u208 u209 u210 u211 u212 u213 u214 u215 u216 u217 u218 u219 u220 u221 u222 u223 u224 u225 u226 u227 u228 u229 u230 u231 u232 u233 u234 u235 u236 u237 u238 u239 u240 u241 u242 u243 u244 u245 u246 u247 u248 u249 u250 u251 u252 u253 u254 u255 u256 u257 u258 u259 u260 u261 u262 u263 u264 u265 u266 u267 u268 u269 u270 u271 u272 u273 u274 u275 u276 u277 u278 u279 u280 u281 u282 u283 u284 u285 u286 u287 u288 u289 u290 u291 u292 u293 u294 u295 u296 u297 u298 u299 u300 u301 u302 u303 u304 u305 u306 u307 u308 u309 u310 u311 u312 u313 u314 u315 u316 u317 u318 : Value} (C : Code) (hC : C = (sndSeq (sndSeq (sndSeq (sndSeq (sndSeq (sndSeq (sndSeq (sndSeq (sndSeq (sndSeq (sndSeq (sndSeq (sndSeq (Try.f3.body.getD .skip))))))))))))))) (w0 W0 W : World) (a0 : Int) (a2 : Option Addr) (cap2 : Nat) (a3 : Option Addr) (len3 cap3 : Nat) (a4 a5 : Int) (acc : List (Int × Int)) (b cm gm : Nat) (sl : Value) (L : List (Int × Int)) (x : Option Addr) (N c B : Nat) (p p' : Nat)
    (HR : Hid (Run w0 W0 b cm gm a0 sl (.int .u64 a0) sl (.slice none 0 0) (.slice none 0 0) (.slice x N c) acc)) (HD : Hid (Done w0 W0 b cm gm B (.slice x N c) L acc)) (HV : Hid (Vw w0 W0 p b cm gm (.int .u64 a0) sl (.slice none 0 0) (.slice none 0 0) (.slice x N c))) (HN : Hid (N = L.length)) (lN : N ≤ len3) (HV' : Hid (Vw w0 W0 p' b cm gm (.int .u64 a0) sl (.slice none 0 0) (.slice none 0 0) (.slice x N c))) (HT : Hid (Two w0 a2 a3 acc)) (HL : Hid (len3 = acc.length)) (l3 : len3 ≤ 4096) (Hok : Hid (∀ x ∈ acc, okP x)) (Hx : Hid (okP (a4, a5))) (hk : Kept [] W0 W) :
    C.wp Try.prog (bodyPost Try.prog Try.f3 fun e w' => e = .returned (.bool true) ∧ Below w0.heap.size w0 w') ⟨#[.int .u64 a0, u1, .slice a2 len3 cap2, .slice a3 len3 cap3, .int .i64 a4, .int .u64 a5, u6, u7, u8, u9, u10, u11, u12, u13, .pointer (some ⟨b, 0, none⟩), u15, .pointer (some ⟨p, 0, none⟩), .pointer (some ⟨p', 0, none⟩), .int .i64 N, u19, u20, u21, u22, u23, u24, u25, u26, u27, u28, u29, u30, u31, u32, u33, u34, u35, u36, u37, u38, u39, u40, u41, u42, u43, u44, u45, u46, u47, u48, u49, u50, u51, u52, u53, u54, u55, u56, u57, u58, u59, u60, u61, u62, u63, u64, u65, u66, u67, u68, u69, u70, u71, u72, u73, u74, u75, u76, u77, u78, u79, u80, u81, u82, u83, u84, u85, u86, u87, u88, u89, u90, u91, u92, u93, u94, u95, u96, u97, u98, u99, u100, u101, u102, u103, u104, u105, u106, u107, u108, u109, u110, u111, u112, u113, u114, u115, u116, u117, u118, u119, u120, u121, u122, u123, u124, u125, u126, u127, u128, u129, u130, u131, u132, u133, u134, u135, u136, u137, u138, u139, u140, u141, u142, u143, u144, u145, u146, u147, u148, u149, u150, u151, u152, u153, u154, u155, u156, u157, u158, u159, u160, u161, u162, u163, u164, u165, u166, u167, u168, u169, u170, u171, u172, u173, u174, u175, u176, u177, u178, u179, u180, u181, u182, u183, u184, u185, u186, u187, u188, u189, u190, u191, u192, u193, u194, u195, u196, u197, u198, u199, u200, u201, u202, u203, u204, u205, u206, u207, u208, u209, u210, u211, u212, u213, u214, u215, u216, u217, u218, u219, u220, u221, u222, u223, u224, u225, u226, u227, u228, u229, u230, u231, u232, u233, u234, u235, u236, u237, u238, u239, u240, u241, u242, u243, u244, u245, u246, u247, u248, u249, u250, u251, u252, u253, u254, u255, u256, u257, u258, u259, u260, u261, u262, u263, u264, u265, u266, u267, u268, u269, u270, u271, u272, u273, u274, u275, u276, u277, u278, u279, u280, u281, u282, u283, u284, u285, u286, u287, u288, u289, u290, u291, u292, u293, u294, u295, u296, u297, u298, u299, u300, u301, u302, u303, u304, u305, u306, u307, u308, u309, u310, u311, u312, u313, u314, u315, u316, u317, u318], []⟩ W := by
  simp only [Try.f3, Option.getD_some, sndSeq] at hC
  subst hC
  dsimp only
  go_step
  go_step
  go_cut [] (fun wx => Kept [] W0 wx)
  case first => as_aux_lemma =>
    have hV := HV'.out.kept hk (by simp)
    have c0 := hV.c0
    have c1 := hV.c1
    have c2 := hV.c2
    have c3 := hV.c3
    have c4 := hV.c4
    clear hV
    go_wp2_with fail
    refine (relLen10 _ _ _ _ _ _ _ _).mono ?_
    rintro e w1 ⟨rfl, hk1⟩
    clear c0 c1 c2 c3 c4
    go_wp2
    go_meet
    exact hk.trans hk1
  case rest => as_aux_lemma =>
  refine (show ∀ a w, Code.wp Try.prog _ _ a w → _ from by assumption) _ _ ?_
  exact t27 _ (by rfl) w0 W0 wc a0 a2 cap2 a3 len3 cap3 a4 a5 acc b cm gm sl L x N c B p p' HR HD HV HN lN HV' HT HL l3 Hok Hx hcut

/-! ### region 24 -/
set_option maxRecDepth 100000 in
set_option maxHeartbeats 8000000 in
theorem t24 {u1 u6 u7 u8 u9 u10 u11 u12 u13 u15 u18 u19 u20 u21 u22 u23 u24 u25 u26 u27 u28 u29 u30 u31 u32 u33 u34 u35 u36 u37 u38 u39 u40 u41 u42 u43 u44 u45 u46 u47 u48 u49 u50 u51 u52 u53 u54 u55 u56 u57 u58 u59 u60 u61 u62 u63 u64 u65 u66 u67 u68 u69 u70 u71 u72 u73 u74 u75 u76 u77 u78 u79 u80 u81 u82 u83 u84 u85 u86 u87 u88 u89 u90 u91 u92 u93 u94 u95 u96 u97 u98 u99 u100 u101 u102 u103 u104 u105 u106 u107 u108 u109 u110 u111 u112 u113 u114 u115 u116 u117 u118 u119 u120 u121 u122 u123 u124 u125 u126 u127 u128 u129 u130 u131 u132 u133 u134 u135 u136 u137 u138 u139 u140 u141 u142 u143 u144 u145 u146 u147 u148 u149 u150 u151 u152 u153 u154 u155 u156 u157 u158 u159 u160 u161 u162 u163 u164 u165 u166 u167 u168 u169 u170 u171 u172 u173 u174 u175 u176 u177 u178 u179 u180 u181 u182 u183 u184 u185 u186 u187 u188 u189 u190 u191 u192 u193 u194 u195 u196 u197 u198 u199 u200 u201 u202 u203 u204 u205 u206 u207 u208 u209 u210 u211 u212 u213 u214 u215 u216 u217 u218 u219 u220 u221 u222 u223 u224 u225 u226 u227 u228 u229 u230 u231 u232 u233 u234 u235 u236 u237 u238 u239 u240 u241 u242 u243 u244 u245 u246 u247 u248 u249 u250 u251 u252 u253 u254 u255 u256 u257 u258 u259 u260 u261 u262 u263 u264 u265 u266 u267 u268 u269 u270 u271 u272 u273 u274 u275 u276 u277 u278 u279 u280 u281 u282 u283 u284 u285 u286 u287 u288 u289 u290 u291 u292 u293 u294 u295 u296 u297 u298 u299 u300 u301 u302 u303 u304 u305 u306 u307 u308 u309 u310 u311 u312 u313 u314 u315 u316 u317 u318 : Value} (C : Code) (hC : C = (sndSeq (sndSeq (sndSeq (sndSeq (sndSeq (sndSeq (sndSeq (sndSeq (sndSeq (sndSeq (sndSeq (sndSeq (Try.f3.body.getD .skip)))))))))))))) (w0 W0 W : World) (a0 : Int) (a2 : Option Addr) (cap2 : Nat) (a3 : Option Addr) (len3 cap3 : Nat) (a4 a5 : Int) (acc : List (Int × Int)) (b cm gm : Nat) (sl : Value) (L : List (Int × Int)) (x : Option Addr) (N c B : Nat) (p p' : Nat)
    (HR : Hid (Run w0 W0 b cm gm a0 sl (.int .u64 a0) sl (.slice none 0 0) (.slice none 0 0) (.slice x N c) acc)) (HD : Hid (Done w0 W0 b cm gm B (.slice x N c) L acc)) (HV : Hid (Vw w0 W0 p b cm gm (.int .u64 a0) sl (.slice none 0 0) (.slice none 0 0) (.slice x N c))) (HN : Hid (N = L.length)) (lN : N ≤ len3) (HV' : Hid (Vw w0 W0 p' b cm gm (.int .u64 a0) sl (.slice none 0 0) (.slice none 0 0) (.slice x N c))) (HT : Hid (Two w0 a2 a3 acc)) (HL : Hid (len3 = acc.length)) (l3 : len3 ≤ 4096) (Hok : Hid (∀ x ∈ acc, okP x)) (Hx : Hid (okP (a4, a5))) (hk : Kept [] W0 W) :
    C.wp Try.prog (bodyPost Try.prog Try.f3 fun e w' => e = .returned (.bool true) ∧ Below w0.heap.size w0 w') ⟨#[.int .u64 a0, u1, .slice a2 len3 cap2, .slice a3 len3 cap3, .int .i64 a4, .int .u64 a5, u6, u7, u8, u9, u10, u11, u12, u13, .pointer (some ⟨b, 0, none⟩), u15, .pointer (some ⟨p, 0, none⟩), .pointer (some ⟨p', 0, none⟩), u18, u19, u20, u21, u22, u23, u24, u25, u26, u27, u28, u29, u30, u31, u32, u33, u34, u35, u36, u37, u38, u39, u40, u41, u42, u43, u44, u45, u46, u47, u48, u49, u50, u51, u52, u53, u54, u55, u56, u57, u58, u59, u60, u61, u62, u63, u64, u65, u66, u67, u68, u69, u70, u71, u72, u73, u74, u75, u76, u77, u78, u79, u80, u81, u82, u83, u84, u85, u86, u87, u88, u89, u90, u91, u92, u93, u94, u95, u96, u97, u98, u99, u100, u101, u102, u103, u104, u105, u106, u107, u108, u109, u110, u111, u112, u113, u114, u115, u116, u117, u118, u119, u120, u121, u122, u123, u124, u125, u126, u127, u128, u129, u130, u131, u132, u133, u134, u135, u136, u137, u138, u139, u140, u141, u142, u143, u144, u145, u146, u147, u148, u149, u150, u151, u152, u153, u154, u155, u156, u157, u158, u159, u160, u161, u162, u163, u164, u165, u166, u167, u168, u169, u170, u171, u172, u173, u174, u175, u176, u177, u178, u179, u180, u181, u182, u183, u184, u185, u186, u187, u188, u189, u190, u191, u192, u193, u194, u195, u196, u197, u198, u199, u200, u201, u202, u203, u204, u205, u206, u207, u208, u209, u210, u211, u212, u213, u214, u215, u216, u217, u218, u219, u220, u221, u222, u223, u224, u225, u226, u227, u228, u229, u230, u231, u232, u233, u234, u235, u236, u237, u238, u239, u240, u241, u242, u243, u244, u245, u246, u247, u248, u249, u250, u251, u252, u253, u254, u255, u256, u257, u258, u259, u260, u261, u262, u263, u264, u265, u266, u267, u268, u269, u270, u271, u272, u273, u274, u275, u276, u277, u278, u279, u280, u281, u282, u283, u284, u285, u286, u287, u288, u289, u290, u291, u292, u293, u294, u295, u296, u297, u298, u299, u300, u301, u302, u303, u304, u305, u306, u307, u308, u309, u310, u311, u312, u313, u314, u315, u316, u317, u318], []⟩ W := by
  simp only [Try.f3, Option.getD_some, sndSeq] at hC
  subst hC
  dsimp only
  go_upto_region 24 with fail
  go_cut [18] (fun s wx => s = .int .i64 N ∧ Kept [] W0 wx)
  case first => as_aux_lemma =>
    have hV := HV.out.kept hk (by simp)
    have c0 := hV.c0
    have c1 := hV.c1
    have c2 := hV.c2
    have c3 := hV.c3
    have c4 := hV.c4
    clear hV
    go_wp2_with fail
    refine (relLen10 _ _ _ _ _ _ _ _).mono ?_
    rintro e w1 ⟨rfl, hk1⟩
    clear c0 c1 c2 c3 c4
    go_wp2
    go_meet
    exact ⟨rfl, hk.trans hk1⟩
  case rest => as_aux_lemma =>
  obtain ⟨rfl, hk1⟩ := hcut
  refine (show ∀ a w, Code.wp Try.prog _ _ a w → _ from by assumption) _ _ ?_
  exact t25 _ (by rfl) w0 W0 wc a0 a2 cap2 a3 len3 cap3 a4 a5 acc b cm gm sl L x N c B p p' HR HD HV HN lN HV' HT HL l3 Hok Hx hk1

/-! ### region 23 -/
set_option maxRecDepth 100000 in
set_option maxHeartbeats 8000000 in
theorem t23 {u1 u6 u7 u8 u9 u10 u11 u12 u13 u15 u17 u18 u19 u20 u21 u22 u23 u24 u25 u26 u27 u28 u29 u30 u31 u32 u33 u34 u35 u36 u37 u38 u39 u40 u41 u42 u43 u44 u45 u46 u47 u48 u49 u50 u51 u52 u53 u54 u55 u56 u57 u58 u59 u60 u61 u62 u63 u64 u65 u66 u67 u68 u69 u70 u71 u72 u73 u74 u75 u76 u77 u78 u79 u80 u81 u82 u83 u84 u85 u86 u87 u88 u89 u90 u91 u92 u93 u94 u95 u96 u97 u98 u99 u100 u101 u102 u103 u104 u105 u106 u107 u108 u109 u110 u111 u112 u113 u114 u115 u116 u117 u118 u119 u120 u121 u122 u123 u124 u125 u126 u127 u128 u129 u130 u131 u132 u133 u134 u135 u136 u137 u138 u139 u140 u141 u142 u143 u144 u145 u146 u147 u148 u149 u150 u151 u152 u153 u154 u155 u156 u157 u158 u159 u160 u161 u162 u163 u164 u165 u166 u167 u168 u169 u170 u171 u172 u173 u174 u175 u176 u177 u178 u179 u180 u181 u182 u183 u184 u185 u186 u187 u188 u189 u190 u191 u192 u193 u194 u195 u196 u197 u198 u199 u200 u201 u202 u203 u204 u205 u206 u207 u208 u209 u210 u211 u212 u213 u214 u215 u216 u217 u218 u219 u220 u221 u222 u223 u224 u225 u226 u227 u228 u229 u230 u231 u232 u233 u234 u235 u236 u237 u238 u239 u240 u241 u242 u243 u244 u245 u246 u247 u248 u249 u250 u251 u252 u253 u254 u255 u256 u257 u258 u259 u260 u261 u262 u263 u264 u265 u266 u267 u268 u269 u270 u271 u272 u273 u274 u275 u276 u277 u278 u279 u280 u281 u282 u283 u284 u285 u286 u287 u288 u289 u290 u291 u292 u293 u294 u295 u296 u297 u298 u299 u300 u301 u302 u303 u304 u305 u306 u307 u308 u309 u310 u311 u312 u313 u314 u315 u316 u317 u318 : Value} (C : Code) (hC : C = (sndSeq (sndSeq (sndSeq (sndSeq (sndSeq (sndSeq (sndSeq (sndSeq (sndSeq (sndSeq (sndSeq (Try.f3.body.getD .skip))))))))))))) (w0 W : World) (a0 : Int) (a2 : Option Addr) (cap2 : Nat) (a3 : Option Addr) (len3 cap3 : Nat) (a4 a5 : Int) (acc : List (Int × Int)) (b cm gm : Nat) (sl : Value) (L : List (Int × Int)) (x : Option Addr) (N c B : Nat) (p : Nat)
    (HR : Hid (Run w0 W b cm gm a0 sl (.int .u64 a0) sl (.slice none 0 0) (.slice none 0 0) (.slice x N c) acc)) (HD : Hid (Done w0 W b cm gm B (.slice x N c) L acc)) (HN : Hid (N = L.length)) (lN : N ≤ len3) (HT : Hid (Two w0 a2 a3 acc)) (HL : Hid (len3 = acc.length)) (l3 : len3 ≤ 4096) (Hok : Hid (∀ x ∈ acc, okP x)) (Hx : Hid (okP (a4, a5))) (HV : Hid (Vw w0 W p b cm gm (.int .u64 a0) sl (.slice none 0 0) (.slice none 0 0) (.slice x N c))) :
    C.wp Try.prog (bodyPost Try.prog Try.f3 fun e w' => e = .returned (.bool true) ∧ Below w0.heap.size w0 w') ⟨#[.int .u64 a0, u1, .slice a2 len3 cap2, .slice a3 len3 cap3, .int .i64 a4, .int .u64 a5, u6, u7, u8, u9, u10, u11, u12, u13, .pointer (some ⟨b, 0, none⟩), u15, .pointer (some ⟨p, 0, none⟩), u17, u18, u19, u20, u21, u22, u23, u24, u25, u26, u27, u28, u29, u30, u31, u32, u33, u34, u35, u36, u37, u38, u39, u40, u41, u42, u43, u44, u45, u46, u47, u48, u49, u50, u51, u52, u53, u54, u55, u56, u57, u58, u59, u60, u61, u62, u63, u64, u65, u66, u67, u68, u69, u70, u71, u72, u73, u74, u75, u76, u77, u78, u79, u80, u81, u82, u83, u84, u85, u86, u87, u88, u89, u90, u91, u92, u93, u94, u95, u96, u97, u98, u99, u100, u101, u102, u103, u104, u105, u106, u107, u108, u109, u110, u111, u112, u113, u114, u115, u116, u117, u118, u119, u120, u121, u122, u123, u124, u125, u126, u127, u128, u129, u130, u131, u132, u133, u134, u135, u136, u137, u138, u139, u140, u141, u142, u143, u144, u145, u146, u147, u148, u149, u150, u151, u152, u153, u154, u155, u156, u157, u158, u159, u160, u161, u162, u163, u164, u165, u166, u167, u168, u169, u170, u171, u172, u173, u174, u175, u176, u177, u178, u179, u180, u181, u182, u183, u184, u185, u186, u187, u188, u189, u190, u191, u192, u193, u194, u195, u196, u197, u198, u199, u200, u201, u202, u203, u204, u205, u206, u207, u208, u209, u210, u211, u212, u213, u214, u215, u216, u217, u218, u219, u220, u221, u222, u223, u224, u225, u226, u227, u228, u229, u230, u231, u232, u233, u234, u235, u236, u237, u238, u239, u240, u241, u242, u243, u244, u245, u246, u247, u248, u249, u250, u251, u252, u253, u254, u255, u256, u257, u258, u259, u260, u261, u262, u263, u264, u265, u266, u267, u268, u269, u270, u271, u272, u273, u274, u275, u276, u277, u278, u279, u280, u281, u282, u283, u284, u285, u286, u287, u288, u289, u290, u291, u292, u293, u294, u295, u296, u297, u298, u299, u300, u301, u302, u303, u304, u305, u306, u307, u308, u309, u310, u311, u312, u313, u314, u315, u316, u317, u318], []⟩ W := by
  simp only [Try.f3, Option.getD_some, sndSeq] at hC
  subst hC
  dsimp only
  go_upto_region 23 with fail
  go_cut [17] (fun s wx => ∃ p', s = .pointer (some ⟨p', 0, none⟩) ∧ Run w0 wx b cm gm a0 sl (.int .u64 a0) sl (.slice none 0 0) (.slice none 0 0) (.slice x N c) acc ∧ Done w0 wx b cm gm B (.slice x N c) L acc ∧ Vw w0 wx p b cm gm (.int .u64 a0) sl (.slice none 0 0) (.slice none 0 0) (.slice x N c) ∧ Vw w0 wx p' b cm gm (.int .u64 a0) sl (.slice none 0 0) (.slice none 0 0) (.slice x N c))
  case first => as_aux_lemma =>
    have hC : Hid _ := current9 b cm gm a0 sl _ _ _ _ _ W HR.out.st
    have hst1 := run_store_one Try.prog
    have o1 := HR.out.st.one.1
    go_wp2_with fail
    refine (show Calls _ _ _ _ _ from hC.out).mono ?_
    rintro e w1 ⟨rfl, hst, hk1⟩
    have hR1 := HR.out.view hk1 hst
    have hD1 := HD.out.kept hk1 (by simpa using HD.out.b)
    have h0 := hR1.bel.size
    have hR2 : Hid (Run w0 (w1.alloc (.cells #[.int .u64 a0, sl, .slice none 0 0, .slice none 0 0, .slice x N c] 37)) b cm gm a0 sl (.int .u64 a0) sl (.slice none 0 0) (.slice none 0 0) (.slice x N c) acc) := hR1.kept (S := []) ((Kept.refl _ _).alloc _) (by simp) (by simp) (by simp) (by simp)
    have hD2 : Hid (Done w0 (w1.alloc (.cells #[.int .u64 a0, sl, .slice none 0 0, .slice none 0 0, .slice x N c] 37)) b cm gm B (.slice x N c) L acc) := hD1.kept (S := []) ((Kept.refl _ _).alloc _) (by simp)
    have hV1 : Hid (Vw w0 (w1.alloc (.cells #[.int .u64 a0, sl, .slice none 0 0, .slice none 0 0, .slice x N c] 37)) p b cm gm (.int .u64 a0) sl (.slice none 0 0) (.slice none 0 0) (.slice x N c)) := (HV.out.kept hk1 (by simpa using HV.out.nb)).kept (S := []) ((Kept.refl _ _).alloc _) (by simp)
    have hV2 : Hid (Vw w0 (w1.alloc (.cells #[.int .u64 a0, sl, .slice none 0 0, .slice none 0 0, .slice x N c] 37)) w1.heap.size b cm gm (.int .u64 a0) sl (.slice none 0 0) (.slice none 0 0) (.slice x N c)) := Vw.made h0 hst.lt hR1.gone.lt
    clear hst hR1 hD1 HR HD hC HV hk1
    go_wp2
    go_meet
    exact ⟨_, rfl, hR2.out, hD2.out, hV1.out, hV2.out⟩
  case rest => as_aux_lemma =>
  obtain ⟨p', rfl, hR, hD, hV, hV'⟩ := hcut
  refine (show ∀ a w, Code.wp Try.prog _ _ a w → _ from by assumption) _ _ ?_
  exact t24 _ (by rfl) w0 wc wc a0 a2 cap2 a3 len3 cap3 a4 a5 acc b cm gm sl L x N c B p p' hR hD hV HN lN hV' HT HL l3 Hok Hx (Kept.refl _ _)

/-! ### region 22 -/
set_option maxRecDepth 100000 in
set_option maxHeartbeats 8000000 in
theorem t22 {u1 u6 u7 u8 u9 u10 u11 u12 u13 u15 u16 u17 u18 u19 u20 u21 u22 u23 u24 u25 u26 u27 u28 u29 u30 u31 u32 u33 u34 u35 u36 u37 u38 u39 u40 u41 u42 u43 u44 u45 u46 u47 u48 u49 u50 u51 u52 u53 u54 u55 u56 u57 u58 u59 u60 u61 u62 u63 u64 u65 u66 u67 u68 u69 u70 u71 u72 u73 u74 u75 u76 u77 u78 u79 u80 u81 u82 u83 u84 u85 u86 u87 u88 u89 u90 u91 u92 u93 u94 u95 u96 u97 u98 u99 u100 u101 u102 u103 u104 u105 u106 u107 u108 u109 u110 u111 u112 u113 u114 u115 u116 u117 u118 u119 u120 u121 u122 u123 u124 u125 u126 u127 u128 u129 u130 u131 u132 u133 u134 u135 u136 u137 u138 u139 u140 u141 u142 u143 u144 u145 u146 u147 u148 u149 u150 u151 u152 u153 u154 u155 u156 u157 u158 u159 u160 u161 u162 u163 u164 u165 u166 u167 u168 u169 u170 u171 u172 u173 u174 u175 u176 u177 u178 u179 u180 u181 u182 u183 u184 u185 u186 u187 u188 u189 u190 u191 u192 u193 u194 u195 u196 u197 u198 u199 u200 u201 u202 u203 u204 u205 u206 u207 u208 u209 u210 u211 u212 u213 u214 u215 u216 u217 u218 u219 u220 u221 u222 u223 u224 u225 u226 u227 u228 u229 u230 u231 u232 u233 u234 u235 u236 u237 u238 u239 u240 u241 u242 u243 u244 u245 u246 u247 u248 u249 u250 u251 u252 u253 u254 u255 u256 u257 u258 u259 u260 u261 u262 u263 u264 u265 u266 u267 u268 u269 u270 u271 u272 u273 u274 u275 u276 u277 u278 u279 u280 u281 u282 u283 u284 u285 u286 u287 u288 u289 u290 u291 u292 u293 u294 u295 u296 u297 u298 u299 u300 u301 u302 u303 u304 u305 u306 u307 u308 u309 u310 u311 u312 u313 u314 u315 u316 u317 u318 : Value} (C : Code) (hC : C = (sndSeq (sndSeq (sndSeq (sndSeq (sndSeq (sndSeq (sndSeq (sndSeq (sndSeq (sndSeq (Try.f3.body.getD .skip)))))))))))) (w0 W : World) (a0 : Int) (a2 : Option Addr) (cap2 : Nat) (a3 : Option Addr) (len3 cap3 : Nat) (a4 a5 : Int) (acc : List (Int × Int)) (b cm gm : Nat) (sl : Value) (L : List (Int × Int)) (x : Option Addr) (N c B : Nat)
    (HR : Hid (Run w0 W b cm gm a0 sl (.int .u64 a0) sl (.slice none 0 0) (.slice none 0 0) (.slice x N c) acc)) (HD : Hid (Done w0 W b cm gm B (.slice x N c) L acc)) (HN : Hid (N = L.length)) (lN : N ≤ len3) (HT : Hid (Two w0 a2 a3 acc)) (HL : Hid (len3 = acc.length)) (l3 : len3 ≤ 4096) (Hok : Hid (∀ x ∈ acc, okP x)) (Hx : Hid (okP (a4, a5))) :
    C.wp Try.prog (bodyPost Try.prog Try.f3 fun e w' => e = .returned (.bool true) ∧ Below w0.heap.size w0 w') ⟨#[.int .u64 a0, u1, .slice a2 len3 cap2, .slice a3 len3 cap3, .int .i64 a4, .int .u64 a5, u6, u7, u8, u9, u10, u11, u12, u13, .pointer (some ⟨b, 0, none⟩), u15, u16, u17, u18, u19, u20, u21, u22, u23, u24, u25, u26, u27, u28, u29, u30, u31, u32, u33, u34, u35, u36, u37, u38, u39, u40, u41, u42, u43, u44, u45, u46, u47, u48, u49, u50, u51, u52, u53, u54, u55, u56, u57, u58, u59, u60, u61, u62, u63, u64, u65, u66, u67, u68, u69, u70, u71, u72, u73, u74, u75, u76, u77, u78, u79, u80, u81, u82, u83, u84, u85, u86, u87, u88, u89, u90, u91, u92, u93, u94, u95, u96, u97, u98, u99, u100, u101, u102, u103, u104, u105, u106, u107, u108, u109, u110, u111, u112, u113, u114, u115, u116, u117, u118, u119, u120, u121, u122, u123, u124, u125, u126, u127, u128, u129, u130, u131, u132, u133, u134, u135, u136, u137, u138, u139, u140, u141, u142, u143, u144, u145, u146, u147, u148, u149, u150, u151, u152, u153, u154, u155, u156, u157, u158, u159, u160, u161, u162, u163, u164, u165, u166, u167, u168, u169, u170, u171, u172, u173, u174, u175, u176, u177, u178, u179, u180, u181, u182, u183, u184, u185, u186, u187, u188, u189, u190, u191, u192, u193, u194, u195, u196, u197, u198, u199, u200, u201, u202, u203, u204, u205, u206, u207, u208, u209, u210, u211, u212, u213, u214, u215, u216, u217, u218, u219, u220, u221, u222, u223, u224, u225, u226, u227, u228, u229, u230, u231, u232, u233, u234, u235, u236, u237, u238, u239, u240, u241, u242, u243, u244, u245, u246, u247, u248, u249, u250, u251, u252, u253, u254, u255, u256, u257, u258, u259, u260, u261, u262, u263, u264, u265, u266, u267, u268, u269, u270, u271, u272, u273, u274, u275, u276, u277, u278, u279, u280, u281, u282, u283, u284, u285, u286, u287, u288, u289, u290, u291, u292, u293, u294, u295, u296, u297, u298, u299, u300, u301, u302, u303, u304, u305, u306, u307, u308, u309, u310, u311, u312, u313, u314, u315, u316, u317, u318], []⟩ W := by
  simp only [Try.f3, Option.getD_some, sndSeq] at hC
  subst hC
  dsimp only
  go_upto_region 22 with fail
  go_cut [16] (fun s wx => ∃ p, s = .pointer (some ⟨p, 0, none⟩) ∧ Run w0 wx b cm gm a0 sl (.int .u64 a0) sl (.slice none 0 0) (.slice none 0 0) (.slice x N c) acc ∧ Done w0 wx b cm gm B (.slice x N c) L acc ∧ Vw w0 wx p b cm gm (.int .u64 a0) sl (.slice none 0 0) (.slice none 0 0) (.slice x N c))
  case first => as_aux_lemma =>
    have hC : Hid _ := current9 b cm gm a0 sl _ _ _ _ _ W HR.out.st
    have hst1 := run_store_one Try.prog
    have o1 := HR.out.st.one.1
    go_wp2_with fail
    refine (show Calls _ _ _ _ _ from hC.out).mono ?_
    rintro e w1 ⟨rfl, hst, hk1⟩
    have hR1 := HR.out.view hk1 hst
    have hD1 := HD.out.kept hk1 (by simpa using HD.out.b)
    have h0 := hR1.bel.size
    have hR2 : Hid (Run w0 (w1.alloc (.cells #[.int .u64 a0, sl, .slice none 0 0, .slice none 0 0, .slice x N c] 37)) b cm gm a0 sl (.int .u64 a0) sl (.slice none 0 0) (.slice none 0 0) (.slice x N c) acc) := hR1.kept (S := []) ((Kept.refl _ _).alloc _) (by simp) (by simp) (by simp) (by simp)
    have hD2 : Hid (Done w0 (w1.alloc (.cells #[.int .u64 a0, sl, .slice none 0 0, .slice none 0 0, .slice x N c] 37)) b cm gm B (.slice x N c) L acc) := hD1.kept (S := []) ((Kept.refl _ _).alloc _) (by simp)
    have hV2 : Hid (Vw w0 (w1.alloc (.cells #[.int .u64 a0, sl, .slice none 0 0, .slice none 0 0, .slice x N c] 37)) w1.heap.size b cm gm (.int .u64 a0) sl (.slice none 0 0) (.slice none 0 0) (.slice x N c)) := Vw.made h0 hst.lt hR1.gone.lt
    clear hst hR1 hD1 HR HD hC hk1
    go_wp2
    go_meet
    exact ⟨_, rfl, hR2.out, hD2.out, hV2.out⟩
  case rest => as_aux_lemma =>
  obtain ⟨p, rfl, hR, hD, hV⟩ := hcut
  refine (show ∀ a w, Code.wp Try.prog _ _ a w → _ from by assumption) _ _ ?_
  exact t23 _ (by rfl) w0 wc a0 a2 cap2 a3 len3 cap3 a4 a5 acc b cm gm sl L x N c B p hR hD HN lN HT HL l3 Hok Hx hV

/-! ### region 21 -/
set_option maxRecDepth 100000 in
set_option maxHeartbeats 8000000 in
theorem t21 {u1 u6 u7 u8 u9 u10 u11 u12 u13 u15 u16 u17 u18 u19 u20 u21 u22 u23 u24 u25 u26 u27 u28 u29 u30 u31 u32 u33 u34 u35 u36 u37 u38 u39 u40 u41 u42 u43 u44 u45 u46 u47 u48 u49 u50 u51 u52 u53 u54 u55 u56 u57 u58 u59 u60 u61 u62 u63 u64 u65 u66 u67 u68 u69 u70 u71 u72 u73 u74 u75 u76 u77 u78 u79 u80 u81 u82 u83 u84 u85 u86 u87 u88 u89 u90 u91 u92 u93 u94 u95 u96 u97 u98 u99 u100 u101 u102 u103 u104 u105 u106 u107 u108 u109 u110 u111 u112 u113 u114 u115 u116 u117 u118 u119 u120 u121 u122 u123 u124 u125 u126 u127 u128 u129 u130 u131 u132 u133 u134 u135 u136 u137 u138 u139 u140 u141 u142 u143 u144 u145 u146 u147 u148 u149 u150 u151 u152 u153 u154 u155 u156 u157 u158 u159 u160 u161 u162 u163 u164 u165 u166 u167 u168 u169 u170 u171 u172 u173 u174 u175 u176 u177 u178 u179 u180 u181 u182 u183 u184 u185 u186 u187 u188 u189 u190 u191 u192 u193 u194 u195 u196 u197 u198 u199 u200 u201 u202 u203 u204 u205 u206 u207 u208 u209 u210 u211 u212 u213 u214 u215 u216 u217 u218 u219 u220 u221 u222 u223 u224 u225 u226 u227 u228 u229 u230 u231 u232 u233 u234 u235 u236 u237 u238 u239 u240 u241 u242 u243 u244 u245 u246 u247 u248 u249 u250 u251 u252 u253 u254 u255 u256 u257 u258 u259 u260 u261 u262 u263 u264 u265 u266 u267 u268 u269 u270 u271 u272 u273 u274 u275 u276 u277 u278 u279 u280 u281 u282 u283 u284 u285 u286 u287 u288 u289 u290 u291 u292 u293 u294 u295 u296 u297 u298 u299 u300 u301 u302 u303 u304 u305 u306 u307 u308 u309 u310 u311 u312 u313 u314 u315 u316 u317 u318 : Value} (C : Code) (hC : C = (sndSeq (sndSeq (sndSeq (sndSeq (sndSeq (sndSeq (sndSeq (sndSeq (sndSeq (Try.f3.body.getD .skip))))))))))) (w0 W : World) (a0 : Int) (a2 : Option Addr) (cap2 : Nat) (a3 : Option Addr) (len3 cap3 : Nat) (a4 a5 : Int) (acc : List (Int × Int)) (b cm gm : Nat) (sl : Value) (v0 v1 v2 v3 v4 : Value)
    (HR : Hid (Run w0 W b cm gm a0 sl v0 v1 v2 v3 v4 acc)) (HT : Hid (Two w0 a2 a3 acc)) (HL : Hid (len3 = acc.length)) (l3 : len3 ≤ 4096) (Hok : Hid (∀ x ∈ acc, okP x)) (Hx : Hid (okP (a4, a5))) :
    C.wp Try.prog (bodyPost Try.prog Try.f3 fun e w' => e = .returned (.bool true) ∧ Below w0.heap.size w0 w') ⟨#[.int .u64 a0, u1, .slice a2 len3 cap2, .slice a3 len3 cap3, .int .i64 a4, .int .u64 a5, u6, u7, u8, u9, u10, u11, u12, u13, .pointer (some ⟨b, 0, none⟩), u15, u16, u17, u18, u19, u20, u21, u22, u23, u24, u25, u26, u27, u28, u29, u30, u31, u32, u33, u34, u35, u36, u37, u38, u39, u40, u41, u42, u43, u44, u45, u46, u47, u48, u49, u50, u51, u52, u53, u54, u55, u56, u57, u58, u59, u60, u61, u62, u63, u64, u65, u66, u67, u68, u69, u70, u71, u72, u73, u74, u75, u76, u77, u78, u79, u80, u81, u82, u83, u84, u85, u86, u87, u88, u89, u90, u91, u92, u93, u94, u95, u96, u97, u98, u99, u100, u101, u102, u103, u104, u105, u106, u107, u108, u109, u110, u111, u112, u113, u114, u115, u116, u117, u118, u119, u120, u121, u122, u123, u124, u125, u126, u127, u128, u129, u130, u131, u132, u133, u134, u135, u136, u137, u138, u139, u140, u141, u142, u143, u144, u145, u146, u147, u148, u149, u150, u151, u152, u153, u154, u155, u156, u157, u158, u159, u160, u161, u162, u163, u164, u165, u166, u167, u168, u169, u170, u171, u172, u173, u174, u175, u176, u177, u178, u179, u180, u181, u182, u183, u184, u185, u186, u187, u188, u189, u190, u191, u192, u193, u194, u195, u196, u197, u198, u199, u200, u201, u202, u203, u204, u205, u206, u207, u208, u209, u210, u211, u212, u213, u214, u215, u216, u217, u218, u219, u220, u221, u222, u223, u224, u225, u226, u227, u228, u229, u230, u231, u232, u233, u234, u235, u236, u237, u238, u239, u240, u241, u242, u243, u244, u245, u246, u247, u248, u249, u250, u251, u252, u253, u254, u255, u256, u257, u258, u259, u260, u261, u262, u263, u264, u265, u266, u267, u268, u269, u270, u271, u272, u273, u274, u275, u276, u277, u278, u279, u280, u281, u282, u283, u284, u285, u286, u287, u288, u289, u290, u291, u292, u293, u294, u295, u296, u297, u298, u299, u300, u301, u302, u303, u304, u305, u306, u307, u308, u309, u310, u311, u312, u313, u314, u315, u316, u317, u318], []⟩ W := by
  simp only [Try.f3, Option.getD_some, sndSeq] at hC
  subst hC
  dsimp only
  go_upto_region 21 with fail
  go_cut [] (fun wx => ∃ B x c L, Run w0 wx b cm gm a0 sl (.int .u64 a0) sl (.slice none 0 0) (.slice none 0 0) (.slice x (List.length L) c) acc ∧ Done w0 wx b cm gm B (.slice x (List.length L) c) L acc)
  case first => as_aux_lemma =>
    have h := HR.out
    have hP : Hid _ := publish8 b cm gm a0 sl v0 v1 v2 v3 v4 acc W h.st h.cmap h.gone (by have := HL.out; omega) Hok.out
    clear h
    go_wp2_with fail
    refine (show Calls _ _ _ _ _ from hP.out).mono ?_
    rintro e w1 ⟨rfl, rv, L, hst, hA, hmem, hrow, hk1⟩
    obtain ⟨x, c, rfl⟩ := ownsRow_form hrow
    have hR1 : Hid (Run w0 w1 b cm gm a0 sl (.int .u64 a0) sl (.slice none 0 0) (.slice none 0 0) (.slice x L.length c) acc) := HR.out.view hk1 hst
    have hD1 : Hid (Done w0 w1 b cm gm W.heap.size (.slice x L.length c) L acc) := ⟨hA, hmem, hrow, HR.out.bel.size, HR.out.st.lt, (Array.getElem?_eq_some_iff.1 HR.out.cmap).1, HR.out.gone.lt⟩
    clear hst hA hmem hrow hk1 hP
    go_wp2
    go_meet
    exact ⟨_, x, c, L, hR1.out, hD1.out⟩
  case rest => as_aux_lemma =>
  obtain ⟨B, x, c, L, hR, hD⟩ := hcut
  have hN : L.length ≤ len3 := by have := fit hD rfl; have := HL.out; omega
  refine (show ∀ a w, Code.wp Try.prog _ _ a w → _ from by assumption) _ _ ?_
  exact t22 _ (by rfl) w0 wc a0 a2 cap2 a3 len3 cap3 a4 a5 acc b cm gm sl L x L.length c B hR hD (show Hid (_ = _) from rfl) hN HT HL l3 Hok Hx
end Go.Proofs.Qxb6614904a
