/-
  THE MAIN WALK: from region 27 to 42.
-/
import Derived.Test.Qxb6614904aEndC
namespace Go.Proofs.Qxb6614904a
open Go.RowKit Go.Maps

/-! ### the loop of region 38 -/
set_option maxRecDepth 100000 in
set_option maxHeartbeats 8000000 in
theorem t37 {u1 u6 u7 u8 u9 u10 u11 u12 u13 u15 u16 u21 u22 u23 u24 u25 u26 u27 u28 u29 u30 u31 u32 u33 u34 u35 u36 u37 u38 u39 u40 u41 u42 u43 u44 u45 u46 u47 u48 u49 u50 u51 u52 u53 u54 u55 u56 u57 u58 u59 u60 u61 u62 u63 u64 u65 u66 u67 u68 u69 u70 u71 u72 u73 u74 u75 u76 u77 u78 u79 u80 u81 u82 u83 u84 u85 u86 u87 u88 u89 u90 u91 u92 u93 u94 u95 u96 u97 u98 u99 u100 u101 u102 u103 u104 u105 u106 u107 u108 u109 u110 u111 u112 u113 u114 u115 u116 u117 u118 u119 u120 u121 u122 u123 u124 u125 u126 u127 u128 u129 u130 u131 u132 u133 u134 u135 u136 u137 u138 u139 u140 u141 u142 u143 u144 u145 u146 u147 u148 u149 u150 u151 u152 u153 u154 u155 u156 u157 u158 u159 u160 u161 u162 u163 u164 u165 u166 u167 u168 u169 u170 u171 u172 u173 u174 u175 u176 u177 u178 u179 u180 u181 u182 u183 u184 u185 u186 u187 u188 u189 u190 u191 u192 u193 u194 u195 u196 u197 u198 u199 u200 u201 u202 u203 u204 u205 u206 u207 u208 u209 u210 u211 u212 u213 u214 u215 u216 u217 u218 u219 u220 u221 u222 u223 u224 u225 u226 u227 u228 u229 u230 u231 u232 u233 u234 u235 u236 u237 u238 u239 u240 u241 u242 u243 u244 u245 u246 u247 u248 u249 u250 u251 u252 u253 u254 u255 u256 u257 u258 u259 u260 u261 u262 u263 u264 u265 u266 u267 u268 u269 u270 u271 u272 u273 u274 u275 u276 u277 u278 u279 u280 u281 u282 u283 u284 u285 u286 u287 u288 u289 u290 u291 u292 u293 u294 u295 u296 u297 u298 u299 u300 u301 u302 u303 u304 u305 u306 u307 u308 u309 u310 u311 u312 u313 u314 u315 u316 u317 u318 : Value} (C : Code) (hC : C = (sndSeq (sndSeq (sndSeq (sndSeq (sndSeq (sndSeq (sndSeq (sndSeq (sndSeq (sndSeq (sndSeq (sndSeq (sndSeq (sndSeq (sndSeq (sndSeq (sndSeq (sndSeq (Try.f3.body.getD .skip)))))))))))))))))))) (w0 W0 W : World) (a0 : Int) (a2 : Option Addr) (cap2 : Nat) (a3 : Option Addr) (len3 cap3 : Nat) (a4 a5 : Int) (acc : List (Int × Int)) (b cm gm : Nat) (sl : Value) (L : List (Int × Int)) (x : Option Addr) (N c B : Nat) (p' g1 g2 : Nat)
    (HR : Hid (Run w0 W0 b cm gm a0 sl (.int .u64 a0) sl (.slice none 0 0) (.slice none 0 0) (.slice x N c) acc)) (HD : Hid (Done w0 W0 b cm gm B (.slice x N c) L acc)) (HN : Hid (N = L.length)) (lN : N ≤ len3) (HV' : Hid (Vw w0 W0 p' b cm gm (.int .u64 a0) sl (.slice none 0 0) (.slice none 0 0) (.slice x N c))) (HT : Hid (Two w0 a2 a3 acc)) (HL : Hid (len3 = acc.length)) (l3 : len3 ≤ 4096) (Hok : Hid (∀ x ∈ acc, okP x)) (Hx : Hid (okP (a4, a5))) (hk : Kept [] W0 W) (b1 : W0.heap.size ≤ g1) (b2 : W0.heap.size ≤ g2) (H1 : Hid (Row w0 W .i64 3 Prod.fst g1 N N L)) (H2 : Hid (Row w0 W .u64 22 Prod.snd g2 N N L)) :
    C.wp Try.prog (bodyPost Try.prog Try.f3 fun e w' => e = .returned (.bool true) ∧ Below w0.heap.size w0 w') ⟨#[.int .u64 a0, u1, .slice a2 len3 cap2, .slice a3 len3 cap3, .int .i64 a4, .int .u64 a5, u6, u7, u8, u9, u10, u11, u12, u13, .pointer (some ⟨b, 0, none⟩), u15, u16, .pointer (some ⟨p', 0, none⟩), .int .i64 N, .slice (some ⟨g1, 0, none⟩) N N, .slice (some ⟨g2, 0, none⟩) N N, u21, u22, u23, u24, u25, u26, u27, u28, u29, u30, u31, u32, u33, u34, u35, u36, u37, u38, u39, u40, u41, u42, u43, u44, u45, u46, u47, u48, u49, u50, u51, u52, u53, u54, u55, u56, u57, u58, u59, u60, u61, u62, u63, u64, u65, u66, u67, u68, u69, u70, u71, u72, u73, u74, u75, u76, u77, u78, u79, u80, u81, u82, u83, u84, u85, u86, u87, u88, u89, u90, u91, u92, u93, u94, u95, u96, u97, u98, u99, u100, u101, u102, u103, u104, u105, u106, u107, u108, u109, u110, u111, u112, u113, u114, u115, u116, u117, u118, u119, u120, u121, u122, u123, u124, u125, u126, u127, u128, u129, u130, u131, u132, u133, u134, u135, u136, u137, u138, u139, u140, u141, u142, u143, u144, u145, u146, u147, u148, u149, u150, u151, u152, u153, u154, u155, u156, u157, u158, u159, u160, u161, u162, u163, u164, u165, u166, u167, u168, u169, u170, u171, u172, u173, u174, u175, u176, u177, u178, u179, u180, u181, u182, u183, u184, u185, u186, u187, u188, u189, u190, u191, u192, u193, u194, u195, u196, u197, u198, u199, u200, u201, u202, u203, u204, u205, u206, u207, u208, u209, u210, u211, u212, u213, u214, u215, u216, u217, u218, u219, u220, u221, u222, u223, u224, u225, u226, u227, u228, u229, u230, u231, u232, u233, u234, u235, u236, u237, u238, u239, u240, u241, u242, u243, u244, u245, u246, u247, u248, u249, u250, u251, u252, u253, u254, u255, u256, u257, u258, u259, u260, u261, u262, u263, u264, u265, u266, u267, u268, u269, u270, u271, u272, u273, u274, u275, u276, u277, u278, u279, u280, u281, u282, u283, u284, u285, u286, u287, u288, u289, u290, u291, u292, u293, u294, u295, u296, u297, u298, u299, u300, u301, u302, u303, u304, u305, u306, u307, u308, u309, u310, u311, u312, u313, u314, u315, u316, u317, u318], []⟩ W := by
  simp only [Try.f3, Option.getD_some, sndSeq] at hC
  subst hC
  dsimp only
  have hNle : N ≤ 4097 := by omega
  go_upto_block 6 with fail
  go_cut [] (fun wx => Kept [] W wx)
  case first => as_aux_lemma =>
    go_upto_region 38 with fail
    go_loopw [24] (fun i wx => ∃ k : Nat, k ≤ N ∧ i = .int .i64 k ∧ Kept [] W wx) (fun i _ => N - (intOf i).toNat)
    case atStart => exact ⟨0, Nat.zero_le _, rfl, Kept.refl _ _⟩
    case round =>
    obtain ⟨k, hkN, rfl, hK⟩ := hrel
    by_cases hlt : k < N
    case pos => as_aux_lemma =>
      have hV := HV'.out.kept (hk.trans hK) (by simp)
      have c0 := hV.c0
      have c1 := hV.c1
      have c2 := hV.c2
      have c3 := hV.c3
      have c4 := hV.c4
      obtain ⟨g, hx, hg, d1, d2⟩ := (HD.out.kept (hk.trans hK) (by simp)).at (i := k) (by have := HN.out; omega)
      subst hx
      obtain ⟨⟨x1, x2⟩, hxk⟩ : ∃ y, L.getD k (0, 0) = y := ⟨_, rfl⟩
      have Hxk : Hid (L.getD k (0, 0) = (x1, x2)) := hxk
      rw [hxk] at d1 d2
      have H11 : Hid _ := rel11 (.int .u64 a0) sl (.slice none 0 0) (.slice none 0 0) g N c k x1 x2 wr hlt hg d1 d2
      clear hV d1 d2 hxk hg
      go_wp2_with fail
      refine (show Calls _ _ _ _ _ from H11.out).mono ?_
      rintro e w1 ⟨rfl, hk1⟩
      clear c0 c1 c2 c3 c4 H11
      have hK1 : Hid (Kept [] W w1) := hK.trans hk1
      have e1 := (H1.out.kept (hK.trans hk1) (by simp)).at hlt
      have e2 := (H2.out.kept (hK.trans hk1) (by simp)).at hlt
      rw [Hxk.out] at e1 e2
      dsimp only at e1 e2
      clear hk1 hK
      go_wp2
      go_roundw
      case rel => exact ⟨k + 1, by omega, by go_num, hK1.out⟩
      case measure => simp [intOf]; omega
    go_wp2
    go_meet
    exact hK
  case rest => as_aux_lemma =>
  have hK := hk.trans hcut
  have n1 : g1 ≠ b ∧ g1 ≠ gm := ⟨by have := HR.out.st.lt; omega, by have := HR.out.gone.lt; omega⟩
  have n2 : g2 ≠ b ∧ g2 ≠ gm := ⟨by have := HR.out.st.lt; omega, by have := HR.out.gone.lt; omega⟩
  refine (show ∀ a w, Code.wp Try.prog _ _ a w → _ from by assumption) _ _ ?_
  exact t43 _ (by rfl) w0 wc a0 a2 cap2 a3 len3 cap3 a4 a5 acc b cm gm sl L x N c B g1 g2 (show Hid _ from HR.out.kept hK (by simp) (by simp) (by simp) (by simp)) (show Hid _ from HD.out.kept hK (by simp)) HN lN HT HL l3 Hok Hx (show Hid _ from H1.out.kept hcut (by simp)) (show Hid _ from H2.out.kept hcut (by simp)) n1 n2

/-! ### region 35 -/
set_option maxRecDepth 100000 in
set_option maxHeartbeats 8000000 in
theorem t35 {u1 u6 u7 u8 u9 u10 u11 u12 u13 u15 u16 u21 u22 u23 u24 u25 u26 u27 u28 u29 u30 u31 u32 u33 u34 u35 u36 u37 u38 u39 u40 u41 u42 u43 u44 u45 u46 u47 u48 u49 u50 u51 u52 u53 u54 u55 u56 u57 u58 u59 u60 u61 u62 u63 u64 u65 u66 u67 u68 u69 u70 u71 u72 u73 u74 u75 u76 u77 u78 u79 u80 u81 u82 u83 u84 u85 u86 u87 u88 u89 u90 u91 u92 u93 u94 u95 u96 u97 u98 u99 u100 u101 u102 u103 u104 u105 u106 u107 u108 u109 u110 u111 u112 u113 u114 u115 u116 u117 u118 u119 u120 u121 u122 u123 u124 u125 u126 u127 u128 u129 u130 u131 u132 u133 u134 u135 u136 u137 u138 u139 u140 u141 u142 u143 u144 u145 u146 u147 u148 u149 u150 u151 u152 u153 u154 u155 u156 u157 u158 u159 u160 u161 u162 u163 u164 u165 u166 u167 u168 u169 u170 u171 u172 u173 u174 u175 u176 u177 u178 u179 u180 u181 u182 u183 u184 u185 u186 u187 u188 u189 u190 u191 u192 u193 u194 u195 u196 u197 u198 u199 u200 u201 u202 u203 u204 u205 u206 u207 u208 u209 u210 u211 u212 u213 u214 u215 u216 u217 u218 u219 u220 u221 u222 u223 u224 u225 u226 u227 u228 u229 u230 u231 u232 u233 u234 u235 u236 u237 u238 u239 u240 u241 u242 u243 u244 u245 u246 u247 u248 u249 u250 u251 u252 u253 u254 u255 u256 u257 u258 u259 u260 u261 u262 u263 u264 u265 u266 u267 u268 u269 u270 u271 u272 u273 u274 u275 u276 u277 u278 u279 u280 u281 u282 u283 u284 u285 u286 u287 u288 u289 u290 u291 u292 u293 u294 u295 u296 u297 u298 u299 u300 u301 u302 u303 u304 u305 u306 u307 u308 u309 u310 u311 u312 u313 u314 u315 u316 u317 u318 : Value} (C : Code) (hC : C = (sndSeq (sndSeq (sndSeq (sndSeq (sndSeq (sndSeq (sndSeq (sndSeq (sndSeq (sndSeq (sndSeq (sndSeq (sndSeq (sndSeq (sndSeq (sndSeq (sndSeq (Try.f3.body.getD .skip))))))))))))))))))) (w0 W0 W : World) (a0 : Int) (a2 : Option Addr) (cap2 : Nat) (a3 : Option Addr) (len3 cap3 : Nat) (a4 a5 : Int) (acc : List (Int × Int)) (b cm gm : Nat) (sl : Value) (L : List (Int × Int)) (x : Option Addr) (N c B : Nat) (p' g1 g2 : Nat)
    (HR : Hid (Run w0 W0 b cm gm a0 sl (.int .u64 a0) sl (.slice none 0 0) (.slice none 0 0) (.slice x N c) acc)) (HD : Hid (Done w0 W0 b cm gm B (.slice x N c) L acc)) (HN : Hid (N = L.length)) (lN : N ≤ len3) (HV' : Hid (Vw w0 W0 p' b cm gm (.int .u64 a0) sl (.slice none 0 0) (.slice none 0 0) (.slice x N c))) (HT : Hid (Two w0 a2 a3 acc)) (HL : Hid (len3 = acc.length)) (l3 : len3 ≤ 4096) (Hok : Hid (∀ x ∈ acc, okP x)) (Hx : Hid (okP (a4, a5))) (hk : Kept [] W0 W) (b1 : W0.heap.size ≤ g1) (b2 : W0.heap.size ≤ g2) (H1 : Hid (Row w0 W .i64 3 Prod.fst g1 N N L)) (H2 : Hid (Row w0 W .u64 22 Prod.snd g2 N N L)) :
    C.wp Try.prog (bodyPost Try.prog Try.f3 fun e w' => e = .returned (.bool true) ∧ Below w0.heap.size w0 w') ⟨#[.int .u64 a0, u1, .slice a2 len3 cap2, .slice a3 len3 cap3, .int .i64 a4, .int .u64 a5, u6, u7, u8, u9, u10, u11, u12, u13, .pointer (some ⟨b, 0, none⟩), u15, u16, .pointer (some ⟨p', 0, none⟩), .int .i64 N, .slice (some ⟨g1, 0, none⟩) N N, .slice (some ⟨g2, 0, none⟩) N N, u21, u22, u23, u24, u25, u26, u27, u28, u29, u30, u31, u32, u33, u34, u35, u36, u37, u38, u39, u40, u41, u42, u43, u44, u45, u46, u47, u48, u49, u50, u51, u52, u53, u54, u55, u56, u57, u58, u59, u60, u61, u62, u63, u64, u65, u66, u67, u68, u69, u70, u71, u72, u73, u74, u75, u76, u77, u78, u79, u80, u81, u82, u83, u84, u85, u86, u87, u88, u89, u90, u91, u92, u93, u94, u95, u96, u97, u98, u99, u100, u101, u102, u103, u104, u105, u106, u107, u108, u109, u110, u111, u112, u113, u114, u115, u116, u117, u118, u119, u120, u121, u122, u123, u124, u125, u126, u127, u128, u129, u130, u131, u132, u133, u134, u135, u136, u137, u138, u139, u140, u141, u142, u143, u144, u145, u146, u147, u148, u149, u150, u151, u152, u153, u154, u155, u156, u157, u158, u159, u160, u161, u162, u163, u164, u165, u166, u167, u168, u169, u170, u171, u172, u173, u174, u175, u176, u177, u178, u179, u180, u181, u182, u183, u184, u185, u186, u187, u188, u189, u190, u191, u192, u193, u194, u195, u196, u197, u198, u199, u200, u201, u202, u203, u204, u205, u206, u207, u208, u209, u210, u211, u212, u213, u214, u215, u216, u217, u218, u219, u220, u221, u222, u223, u224, u225, u226, u227, u228, u229, u230, u231, u232, u233, u234, u235, u236, u237, u238, u239, u240, u241, u242, u243, u244, u245, u246, u247, u248, u249, u250, u251, u252, u253, u254, u255, u256, u257, u258, u259, u260, u261, u262, u263, u264, u265, u266, u267, u268, u269, u270, u271, u272, u273, u274, u275, u276, u277, u278, u279, u280, u281, u282, u283, u284, u285, u286, u287, u288, u289, u290, u291, u292, u293, u294, u295, u296, u297, u298, u299, u300, u301, u302, u303, u304, u305, u306, u307, u308, u309, u310, u311, u312, u313, u314, u315, u316, u317, u318], []⟩ W := by
  simp only [Try.f3, Option.getD_some, sndSeq] at hC
  subst hC
  dsimp only
  go_step
  go_step
  go_cut [] (fun wx => Kept [] W wx)
  case first => as_aux_lemma =>
    have hb : Below w0.heap.size w0 W := (HR.out.kept hk (by simp) (by simp) (by simp) (by simp)).bel
    have hA : Hid _ := are12 (some ⟨g1, 0, none⟩) N (some ⟨g2, 0, none⟩) N L a2 cap2 a3 cap3 acc W (two_rows H1.out H2.out HN.out) (HT.out.kept0 (Kept.of_below hb)) (by have := HL.out; omega) HD.out.asc HD.out.mem
    rw [← HN.out, ← HL.out] at hA
    clear hb
    go_wp2_with fail
    refine (show Calls _ _ _ _ _ from hA.out).mono ?_
    rintro e w1 ⟨rfl, hk1⟩
    clear hA
    go_wp2
    go_meet
    exact hk1
  case rest => as_aux_lemma =>
  refine (show ∀ a w, Code.wp Try.prog _ _ a w → _ from by assumption) _ _ ?_
  exact t37 _ (by rfl) w0 W0 wc a0 a2 cap2 a3 len3 cap3 a4 a5 acc b cm gm sl L x N c B p' g1 g2 HR HD HN lN HV' HT HL l3 Hok Hx (hk.trans hcut) b1 b2 (show Hid _ from H1.out.kept hcut (by simp)) (show Hid _ from H2.out.kept hcut (by simp))

/-! ### the loop of region 30 -/
set_option maxRecDepth 100000 in
set_option maxHeartbeats 8000000 in
theorem t29 {u1 u6 u7 u8 u9 u10 u11 u12 u13 u15 u21 u22 u23 u24 u25 u26 u27 u28 u29 u30 u31 u32 u33 u34 u35 u36 u37 u38 u39 u40 u41 u42 u43 u44 u45 u46 u47 u48 u49 u50 u51 u52 u53 u54 u55 u56 u57 u58 u59 u60 u61 u62 u63 u64 u65 u66 u67 u68 u69 u70 u71 u72 u73 u74 u75 u76 u77 u78 u79 u80 u81 u82 u83 u84 u85 u86 u87 u88 u89 u90 u91 u92 u93 u94 u95 u96 u97 u98 u99 u100 u101 u102 u103 u104 u105 u106 u107 u108 u109 u110 u111 u112 u113 u114 u115 u116 u117 u118 u119 u120 u121 u122 u123 u124 u125 u126 u127 u128 u129 u130 u131 u132 u133 u134 u135 u136 u137 u138 u139 u140 u141 u142 u143 u144 u145 u146 u147 u148 u149 u150 u151 u152 u153 u154 u155 u156 u157 u158 u159 u160 u161 u162 u163 u164 u165 u166 u167 u168 u169 u170 u171 u172 u173 u174 u175 u176 u177 u178 u179 u180 u181 u182 u183 u184 u185 u186 u187 u188 u189 u190 u191 u192 u193 u194 u195 u196 u197 u198 u199 u200 u201 u202 u203 u204 u205 u206 u207 u208 u209 u210 u211 u212 u213 u214 u215 u216 u217 u218 u219 u220 u221 u222 u223 u224 u225 u226 u227 u228 u229 u230 u231 u232 u233 u234 u235 u236 u237 u238 u239 u240 u241 u242 u243 u244 u245 u246 u247 u248 u249 u250 u251 u252 u253 u254 u255 u256 u257 u258 u259 u260 u261 u262 u263 u264 u265 u266 u267 u268 u269 u270 u271 u272 u273 u274 u275 u276 u277 u278 u279 u280 u281 u282 u283 u284 u285 u286 u287 u288 u289 u290 u291 u292 u293 u294 u295 u296 u297 u298 u299 u300 u301 u302 u303 u304 u305 u306 u307 u308 u309 u310 u311 u312 u313 u314 u315 u316 u317 u318 : Value} (C : Code) (hC : C = (sndSeq (sndSeq (sndSeq (sndSeq (sndSeq (sndSeq (sndSeq (sndSeq (sndSeq (sndSeq (sndSeq (sndSeq (sndSeq (sndSeq (sndSeq (sndSeq (Try.f3.body.getD .skip)))))))))))))))))) (w0 W0 W : World) (a0 : Int) (a2 : Option Addr) (cap2 : Nat) (a3 : Option Addr) (len3 cap3 : Nat) (a4 a5 : Int) (acc : List (Int × Int)) (b cm gm : Nat) (sl : Value) (L : List (Int × Int)) (x : Option Addr) (N c B : Nat) (p p' : Nat) (g1 g2 : Nat)
    (HR : Hid (Run w0 W0 b cm gm a0 sl (.int .u64 a0) sl (.slice none 0 0) (.slice none 0 0) (.slice x N c) acc)) (HD : Hid (Done w0 W0 b cm gm B (.slice x N c) L acc)) (HV : Hid (Vw w0 W0 p b cm gm (.int .u64 a0) sl (.slice none 0 0) (.slice none 0 0) (.slice x N c))) (HN : Hid (N = L.length)) (lN : N ≤ len3) (HV' : Hid (Vw w0 W0 p' b cm gm (.int .u64 a0) sl (.slice none 0 0) (.slice none 0 0) (.slice x N c))) (HT : Hid (Two w0 a2 a3 acc)) (HL : Hid (len3 = acc.length)) (l3 : len3 ≤ 4096) (Hok : Hid (∀ x ∈ acc, okP x)) (Hx : Hid (okP (a4, a5))) (hk : Kept [] W0 W) (b1 : W0.heap.size ≤ g1) (b2 : W0.heap.size ≤ g2) (b12 : g1 ≠ g2) (H1 : Hid (Row w0 W .i64 3 Prod.fst g1 N 0 L)) (H2 : Hid (Row w0 W .u64 22 Prod.snd g2 N 0 L)) :
    C.wp Try.prog (bodyPost Try.prog Try.f3 fun e w' => e = .returned (.bool true) ∧ Below w0.heap.size w0 w') ⟨#[.int .u64 a0, u1, .slice a2 len3 cap2, .slice a3 len3 cap3, .int .i64 a4, .int .u64 a5, u6, u7, u8, u9, u10, u11, u12, u13, .pointer (some ⟨b, 0, none⟩), u15, .pointer (some ⟨p, 0, none⟩), .pointer (some ⟨p', 0, none⟩), .int .i64 N, .slice (some ⟨g1, 0, none⟩) N N, .slice (some ⟨g2, 0, none⟩) N N, u21, u22, u23, u24, u25, u26, u27, u28, u29, u30, u31, u32, u33, u34, u35, u36, u37, u38, u39, u40, u41, u42, u43, u44, u45, u46, u47, u48, u49, u50, u51, u52, u53, u54, u55, u56, u57, u58, u59, u60, u61, u62, u63, u64, u65, u66, u67, u68, u69, u70, u71, u72, u73, u74, u75, u76, u77, u78, u79, u80, u81, u82, u83, u84, u85, u86, u87, u88, u89, u90, u91, u92, u93, u94, u95, u96, u97, u98, u99, u100, u101, u102, u103, u104, u105, u106, u107, u108, u109, u110, u111, u112, u113, u114, u115, u116, u117, u118, u119, u120, u121, u122, u123, u124, u125, u126, u127, u128, u129, u130, u131, u132, u133, u134, u135, u136, u137, u138, u139, u140, u141, u142, u143, u144, u145, u146, u147, u148, u149, u150, u151, u152, u153, u154, u155, u156, u157, u158, u159, u160, u161, u162, u163, u164, u165, u166, u167, u168, u169, u170, u171, u172, u173, u174, u175, u176, u177, u178, u179, u180, u181, u182, u183, u184, u185, u186, u187, u188, u189, u190, u191, u192, u193, u194, u195, u196, u197, u198, u199, u200, u201, u202, u203, u204, u205, u206, u207, u208, u209, u210, u211, u212, u213, u214, u215, u216, u217, u218, u219, u220, u221, u222, u223, u224, u225, u226, u227, u228, u229, u230, u231, u232, u233, u234, u235, u236, u237, u238, u239, u240, u241, u242, u243, u244, u245, u246, u247, u248, u249, u250, u251, u252, u253, u254, u255, u256, u257, u258, u259, u260, u261, u262, u263, u264, u265, u266, u267, u268, u269, u270, u271, u272, u273, u274, u275, u276, u277, u278, u279, u280, u281, u282, u283, u284, u285, u286, u287, u288, u289, u290, u291, u292, u293, u294, u295, u296, u297, u298, u299, u300, u301, u302, u303, u304, u305, u306, u307, u308, u309, u310, u311, u312, u313, u314, u315, u316, u317, u318], []⟩ W := by
  simp only [Try.f3, Option.getD_some, sndSeq] at hC
  subst hC
  dsimp only
  have hNle : N ≤ 4097 := by omega
  go_upto_block 4 with fail
  go_cut [] (fun wx => Kept [] W0 wx ∧ Row w0 wx .i64 3 Prod.fst g1 N N L ∧ Row w0 wx .u64 22 Prod.snd g2 N N L)
  case first => as_aux_lemma =>
    go_upto_region 30 with fail
    go_loopw [21] (fun i wx => ∃ k : Nat, k ≤ N ∧ i = .int .i64 k ∧ Kept [] W0 wx ∧ Row w0 wx .i64 3 Prod.fst g1 N k L ∧ Row w0 wx .u64 22 Prod.snd g2 N k L) (fun i _ => N - (intOf i).toNat)
    case atStart => exact ⟨0, Nat.zero_le _, rfl, hk, H1.out, H2.out⟩
    case round =>
    obtain ⟨k, hkN, rfl, hK, r1, r2⟩ := hrel
    have R1 : Hid _ := r1
    have R2 : Hid _ := r2
    clear r1 r2
    by_cases hlt : k < N
    case pos => as_aux_lemma =>
      have hV := HV.out.kept hK (by simp)
      have c0 := hV.c0
      have c1 := hV.c1
      have c2 := hV.c2
      have c3 := hV.c3
      have c4 := hV.c4
      obtain ⟨g, hx, hg, d1, d2⟩ := (HD.out.kept hK (by simp)).at (i := k) (by have := HN.out; omega)
      subst hx
      obtain ⟨⟨x1, x2⟩, hxk⟩ : ∃ y, L.getD k (0, 0) = y := ⟨_, rfl⟩
      have Hxk : Hid (L.getD k (0, 0) = (x1, x2)) := hxk
      rw [hxk] at d1 d2
      have H11 : Hid _ := rel11 (.int .u64 a0) sl (.slice none 0 0) (.slice none 0 0) g N c k x1 x2 wr hlt hg d1 d2
      clear hV d1 d2 hxk hg
      go_wp2_with fail
      refine (show Calls _ _ _ _ _ from H11.out).mono ?_
      rintro e w1 ⟨rfl, hk1⟩
      clear c0 c1 c2 c3 c4 H11
      have hK1 : Kept [] W0 w1 := hK.trans hk1
      have r1 := R1.out.kept hk1 (by simp)
      have r2 := R2.out.kept hk1 (by simp)
      have hk2 : Kept [g1] w1 (w1.setCell ⟨g1, k, none⟩ (.int .i64 x1)) := (Kept.refl _ _).setCell (.inl (by simp)) _
      have r2' := r2.kept hk2 (by simpa using Ne.symm b12)
      have hk3 : Kept [g2] (w1.setCell ⟨g1, k, none⟩ (.int .i64 x1)) ((w1.setCell ⟨g1, k, none⟩ (.int .i64 x1)).setCell ⟨g2, k, none⟩ (.int .u64 x2)) := (Kept.refl _ _).setCell (.inl (by simp)) _
      have Q1 : Hid _ := (r1.set hlt (y := x1) (by rw [Hxk.out])).kept hk3 (by simpa using b12)
      have Q2 : Hid _ := r2'.set hlt (y := x2) (by rw [Hxk.out])
      have hK3 : Hid _ := (hK1.trans' hk2 (by simpa using b1)).trans' hk3 (by simpa using b2)
      obtain ⟨⟨y1, e1⟩, f1⟩ := r1.room hlt
      obtain ⟨⟨y2, e2⟩, f2⟩ := r2'.room hlt
      clear r1 r2 r2' hk1 hk2 hk3 hK hK1
      go_wp2
      go_roundw
      case rel => exact ⟨k + 1, by omega, by go_num, hK3.out, Q1.out, Q2.out⟩
      case measure => simp [intOf]; omega
    obtain rfl : k = N := by omega
    go_wp2
    go_meet
    exact ⟨hK, R1.out, R2.out⟩
  case rest => as_aux_lemma =>
  obtain ⟨hK, r1, r2⟩ := hcut
  refine (show ∀ a w, Code.wp Try.prog _ _ a w → _ from by assumption) _ _ ?_
  exact t35 _ (by rfl) w0 W0 wc a0 a2 cap2 a3 len3 cap3 a4 a5 acc b cm gm sl L x N c B p' g1 g2 HR HD HN lN HV' HT HL l3 Hok Hx hK b1 b2 r1 r2

/-! ### the makes of regions 27 and 28 -/
set_option maxRecDepth 100000 in
set_option maxHeartbeats 8000000 in
theorem t27 {u1 u6 u7 u8 u9 u10 u11 u12 u13 u15 u19 u20 u21 u22 u23 u24 u25 u26 u27 u28 u29 u30 u31 u32 u33 u34 u35 u36 u37 u38 u39 u40 u41 u42 u43 u44 u45 u46 u47 u48 u49 u50 u51 u52 u53 u54 u55 u56 u57 u58 u59 u60 u61 u62 u63 u64 u65 u66 u67 u68 u69 u70 u71 u72 u73 u74 u75 u76 u77 u78 u79 u80 u81 u82 u83 u84 u85 u86 u87 u88 u89 u90 u91 u92 u93 u94 u95 u96 u97 u98 u99 u100 u101 u102 u103 u104 u105 u106 u107 u108 u109 u110 u111 u112 u113 u114 u115 u116 u117 u118 u119 u120 u121 u122 u123 u124 u125 u126 u127 u128 u129 u130 u131 u132 u133 u134 u135 u136 u137 u138 u139 u140 u141 u142 u143 u144 u145 u146 u147 u148 u149 u150 u151 u152 u153 u154 u155 u156 u157 u158 u159 u160 u161 u162 u163 u164 u165 u166 u167 u168 u169 u170 u171 u172 u173 u174 u175 u176 u177 u178 u179 u180 u181 u182 u183 u184 u185 u186 u187 u188 u189 u190 u191 u192 u193 u194 u195 u196 u197 u198 u199 u200 u201 u202 u203 u204 u205 u206 u207 u208 u209 u210 u211 u212 u213 u214 u215 u216 u217 u218 u219 u220 u221 u222 u223 u224 u225 u226 u227 u228 u229 u230 u231 u232 u233 u234 u235 u236 u237 u238 u239 u240 u241 u242 u243 u244 u245 u246 u247 u248 u249 u250 u251 u252 u253 u254 u255 u256 u257 u258 u259 u260 u261 u262 u263 u264 u265 u266 u267 u268 u269 u270 u271 u272 u273 u274 u275 u276 u277 u278 u279 u280 u281 u282 u283 u284 u285 u286 u287 u288 u289 u290 u291 u292 u293 u294 u295 u296 u297 u298 u299 u300 u301 u302 u303 u304 u305 u306 u307 u308 u309 u310 u311 u312 u313 u314 u315 u316 u317 u318 : Value} (C : Code) (hC : C = (sndSeq (sndSeq (sndSeq (sndSeq (sndSeq (sndSeq (sndSeq (sndSeq (sndSeq (sndSeq (sndSeq (sndSeq (sndSeq (sndSeq (Try.f3.body.getD .skip)))))))))))))))) (w0 W0 W : World) (a0 : Int) (a2 : Option Addr) (cap2 : Nat) (a3 : Option Addr) (len3 cap3 : Nat) (a4 a5 : Int) (acc : List (Int × Int)) (b cm gm : Nat) (sl : Value) (L : List (Int × Int)) (x : Option Addr) (N c B : Nat) (p p' : Nat)
    (HR : Hid (Run w0 W0 b cm gm a0 sl (.int .u64 a0) sl (.slice none 0 0) (.slice none 0 0) (.slice x N c) acc)) (HD : Hid (Done w0 W0 b cm gm B (.slice x N c) L acc)) (HV : Hid (Vw w0 W0 p b cm gm (.int .u64 a0) sl (.slice none 0 0) (.slice none 0 0) (.slice x N c))) (HN : Hid (N = L.length)) (lN : N ≤ len3) (HV' : Hid (Vw w0 W0 p' b cm gm (.int .u64 a0) sl (.slice none 0 0) (.slice none 0 0) (.slice x N c))) (HT : Hid (Two w0 a2 a3 acc)) (HL : Hid (len3 = acc.length)) (l3 : len3 ≤ 4096) (Hok : Hid (∀ x ∈ acc, okP x)) (Hx : Hid (okP (a4, a5))) (hk : Kept [] W0 W) :
    C.wp Try.prog (bodyPost Try.prog Try.f3 fun e w' => e = .returned (.bool true) ∧ Below w0.heap.size w0 w') ⟨#[.int .u64 a0, u1, .slice a2 len3 cap2, .slice a3 len3 cap3, .int .i64 a4, .int .u64 a5, u6, u7, u8, u9, u10, u11, u12, u13, .pointer (some ⟨b, 0, none⟩), u15, .pointer (some ⟨p, 0, none⟩), .pointer (some ⟨p', 0, none⟩), .int .i64 N, u19, u20, u21, u22, u23, u24, u25, u26, u27, u28, u29, u30, u31, u32, u33, u34, u35, u36, u37, u38, u39, u40, u41, u42, u43, u44, u45, u46, u47, u48, u49, u50, u51, u52, u53, u54, u55, u56, u57, u58, u59, u60, u61, u62, u63, u64, u65, u66, u67, u68, u69, u70, u71, u72, u73, u74, u75, u76, u77, u78, u79, u80, u81, u82, u83, u84, u85, u86, u87, u88, u89, u90, u91, u92, u93, u94, u95, u96, u97, u98, u99, u100, u101, u102, u103, u104, u105, u106, u107, u108, u109, u110, u111, u112, u113, u114, u115, u116, u117, u118, u119, u120, u121, u122, u123, u124, u125, u126, u127, u128, u129, u130, u131, u132, u133, u134, u135, u136, u137, u138, u139, u140, u141, u142, u143, u144, u145, u146, u147, u148, u149, u150, u151, u152, u153, u154, u155, u156, u157, u158, u159, u160, u161, u162, u163, u164, u165, u166, u167, u168, u169, u170, u171, u172, u173, u174, u175, u176, u177, u178, u179, u180, u181, u182, u183, u184, u185, u186, u187, u188, u189, u190, u191, u192, u193, u194, u195, u196, u197, u198, u199, u200, u201, u202, u203, u204, u205, u206, u207, u208, u209, u210, u211, u212, u213, u214, u215, u216, u217, u218, u219, u220, u221, u222, u223, u224, u225, u226, u227, u228, u229, u230, u231, u232, u233, u234, u235, u236, u237, u238, u239, u240, u241, u242, u243, u244, u245, u246, u247, u248, u249, u250, u251, u252, u253, u254, u255, u256, u257, u258, u259, u260, u261, u262, u263, u264, u265, u266, u267, u268, u269, u270, u271, u272, u273, u274, u275, u276, u277, u278, u279, u280, u281, u282, u283, u284, u285, u286, u287, u288, u289, u290, u291, u292, u293, u294, u295, u296, u297, u298, u299, u300, u301, u302, u303, u304, u305, u306, u307, u308, u309, u310, u311, u312, u313, u314, u315, u316, u317, u318], []⟩ W := by
  simp only [Try.f3, Option.getD_some, sndSeq] at hC
  subst hC
  dsimp only
  have hNle : N ≤ 4097 := by omega
  have hlo := HR.out.bel.size
  obtain ⟨i3, hi3, hz30, hz31, hz32⟩ := info_parts info3
  obtain ⟨i22, hi22, hz20, hz21, hz22⟩ := info_parts info22
  have hsz := hk.size
  go_upto_region 27 with fail
  go_cut [19] (fun s wx => ∃ g, s = .slice (some ⟨g, 0, none⟩) (N) (N) ∧ Row w0 wx .i64 3 Prod.fst g (N) 0 L ∧ W0.heap.size ≤ g ∧ Kept [] W0 wx)
  case first => as_aux_lemma =>
    go_wp2_with (at_make; refine wpList_make_full _ rfl _ _ 24 rfl W.heap.size 3 i3 (.int .i64 0) 1 Try.underlying24 hi3 hz30 hz31 _ _ _ _ (N) rfl rfl rfl rfl (by rw [hz32]; omega) (by unfold maxLen; omega) (Nat.le_refl _) ?_)
    intro w2 hown hg2
    have hrow : Hid (Row w0 w2 .i64 3 Prod.fst W.heap.size (N) 0 L) := Row.made hown (by omega)
    have hk2 : Hid (Kept [] W0 w2) := hk.trans ((Kept.refl _ _).grown hg2 (by simp))
    clear hown hg2
    go_wp2
    go_meet
    exact ⟨_, rfl, hrow.out, hsz, hk2.out⟩
  case rest => as_aux_lemma =>
  obtain ⟨g1, rfl, r1, hg1, hk1⟩ := hcut
  have R1 : Hid _ := r1
  have hsz1 := hk1.size
  have hlt1 := r1.lt
  clear r1
  obtain ⟨W1, hW1⟩ : ∃ W1, W1 = wc := ⟨_, rfl⟩
  subst hW1
  go_upto_region 28 with fail
  go_cut [20] (fun s wx => ∃ g, s = .slice (some ⟨g, 0, none⟩) (N) (N) ∧ Row w0 wx .i64 3 Prod.fst g1 (N) 0 L ∧ Row w0 wx .u64 22 Prod.snd g (N) 0 L ∧ W0.heap.size ≤ g ∧ g1 ≠ g ∧ Kept [] W0 wx)
  case first => as_aux_lemma =>
    go_wp2_with (at_make; refine wpList_make_full _ rfl _ _ 23 rfl W1.heap.size 22 i22 (.int .u64 0) 1 Try.underlying23 hi22 hz20 hz21 _ _ _ _ (N) rfl rfl rfl rfl (by rw [hz22]; omega) (by unfold maxLen; omega) (Nat.le_refl _) ?_)
    intro w2 hown hg2
    have hrow : Hid (Row w0 w2 .u64 22 Prod.snd W1.heap.size (N) 0 L) := Row.made hown (by omega)
    have hk2 : Hid (Kept [] W0 w2) := hk1.trans ((Kept.refl _ _).grown hg2 (by simp))
    have hrow1 : Hid (Row w0 w2 .i64 3 Prod.fst g1 (N) 0 L) := R1.out.kept (S := []) ((Kept.refl _ _).grown hg2 (by simp)) (by simp)
    clear hown hg2
    go_wp2
    go_meet
    exact ⟨_, rfl, hrow1.out, hrow.out, hsz1, by omega, hk2.out⟩
  case rest => as_aux_lemma =>
  obtain ⟨g2, rfl, r1, r2, hg2, h12, hk2⟩ := hcut
  refine (show ∀ a w, Code.wp Try.prog _ _ a w → _ from by assumption) _ _ ?_
  exact t29 _ (by rfl) w0 W0 wc a0 a2 cap2 a3 len3 cap3 a4 a5 acc b cm gm sl L x N c B p p' g1 g2 HR HD HV HN lN HV' HT HL l3 Hok Hx hk2 hg1 hg2 h12 r1 r2
end Go.Proofs.Qxb6614904a
