/-
  THE MAIN WALK: from region 16 to 20.
-/
import Derived.Test.Qxb6614904aEndE
namespace Go.Proofs.Qxb6614904a
open Go.RowKit Go.Maps

/-! ### the loop of region 18 -/
set_option maxRecDepth 100000 in
set_option maxHeartbeats 8000000 in
theorem t17 {u1 u6 u7 u8 u9 u10 u11 u12 u13 u15 u16 u17 u18 u19 u20 u21 u22 u23 u24 u25 u26 u27 u28 u29 u30 u31 u32 u33 u34 u35 u36 u37 u38 u39 u40 u41 u42 u43 u44 u45 u46 u47 u48 u49 u50 u51 u52 u53 u54 u55 u56 u57 u58 u59 u60 u61 u62 u63 u64 u65 u66 u67 u68 u69 u70 u71 u72 u73 u74 u75 u76 u77 u78 u79 u80 u81 u82 u83 u84 u85 u86 u87 u88 u89 u90 u91 u92 u93 u94 u95 u96 u97 u98 u99 u100 u101 u102 u103 u104 u105 u106 u107 u108 u109 u110 u111 u112 u113 u114 u115 u116 u117 u118 u119 u120 u121 u122 u123 u124 u125 u126 u127 u128 u129 u130 u131 u132 u133 u134 u135 u136 u137 u138 u139 u140 u141 u142 u143 u144 u145 u146 u147 u148 u149 u150 u151 u152 u153 u154 u155 u156 u157 u158 u159 u160 u161 u162 u163 u164 u165 u166 u167 u168 u169 u170 u171 u172 u173 u174 u175 u176 u177 u178 u179 u180 u181 u182 u183 u184 u185 u186 u187 u188 u189 u190 u191 u192 u193 u194 u195 u196 u197 u198 u199 u200 u201 u202 u203 u204 u205 u206 u207 u208 u209 u210 u211 u212 u213 u214 u215 u216 u217 u218 u219 u220 u221 u222 u223 u224 u225 u226 u227 u228 u229 u230 u231 u232 u233 u234 u235 u236 u237 u238 u239 u240 u241 u242 u243 u244 u245 u246 u247 u248 u249 u250 u251 u252 u253 u254 u255 u256 u257 u258 u259 u260 u261 u262 u263 u264 u265 u266 u267 u268 u269 u270 u271 u272 u273 u274 u275 u276 u277 u278 u279 u280 u281 u282 u283 u284 u285 u286 u287 u288 u289 u290 u291 u292 u293 u294 u295 u296 u297 u298 u299 u300 u301 u302 u303 u304 u305 u306 u307 u308 u309 u310 u311 u312 u313 u314 u315 u316 u317 u318 : Value} (C : Code) (hC : C = (sndSeq (sndSeq (sndSeq (sndSeq (sndSeq (sndSeq (sndSeq (sndSeq (Try.f3.body.getD .skip)))))))))) (w0 W : World) (a0 : Int) (a2 : Option Addr) (cap2 : Nat) (a3 : Option Addr) (len3 cap3 : Nat) (a4 a5 : Int) (acc : List (Int × Int)) (b cm gm : Nat) (sl : Value) (v0 v1 v2 v3 v4 : Value)
    (HR : Hid (Run w0 W b cm gm a0 sl v0 v1 v2 v3 v4 [])) (HT : Hid (Two w0 a2 a3 acc)) (HL : Hid (len3 = acc.length)) (l3 : len3 ≤ 4096) (Hok : Hid (∀ x ∈ acc, okP x)) (Hx : Hid (okP (a4, a5))) :
    C.wp Try.prog (bodyPost Try.prog Try.f3 fun e w' => e = .returned (.bool true) ∧ Below w0.heap.size w0 w') ⟨#[.int .u64 a0, u1, .slice a2 len3 cap2, .slice a3 len3 cap3, .int .i64 a4, .int .u64 a5, u6, u7, u8, u9, u10, u11, u12, u13, .pointer (some ⟨b, 0, none⟩), u15, u16, u17, u18, u19, u20, u21, u22, u23, u24, u25, u26, u27, u28, u29, u30, u31, u32, u33, u34, u35, u36, u37, u38, u39, u40, u41, u42, u43, u44, u45, u46, u47, u48, u49, u50, u51, u52, u53, u54, u55, u56, u57, u58, u59, u60, u61, u62, u63, u64, u65, u66, u67, u68, u69, u70, u71, u72, u73, u74, u75, u76, u77, u78, u79, u80, u81, u82, u83, u84, u85, u86, u87, u88, u89, u90, u91, u92, u93, u94, u95, u96, u97, u98, u99, u100, u101, u102, u103, u104, u105, u106, u107, u108, u109, u110, u111, u112, u113, u114, u115, u116, u117, u118, u119, u120, u121, u122, u123, u124, u125, u126, u127, u128, u129, u130, u131, u132, u133, u134, u135, u136, u137, u138, u139, u140, u141, u142, u143, u144, u145, u146, u147, u148, u149, u150, u151, u152, u153, u154, u155, u156, u157, u158, u159, u160, u161, u162, u163, u164, u165, u166, u167, u168, u169, u170, u171, u172, u173, u174, u175, u176, u177, u178, u179, u180, u181, u182, u183, u184, u185, u186, u187, u188, u189, u190, u191, u192, u193, u194, u195, u196, u197, u198, u199, u200, u201, u202, u203, u204, u205, u206, u207, u208, u209, u210, u211, u212, u213, u214, u215, u216, u217, u218, u219, u220, u221, u222, u223, u224, u225, u226, u227, u228, u229, u230, u231, u232, u233, u234, u235, u236, u237, u238, u239, u240, u241, u242, u243, u244, u245, u246, u247, u248, u249, u250, u251, u252, u253, u254, u255, u256, u257, u258, u259, u260, u261, u262, u263, u264, u265, u266, u267, u268, u269, u270, u271, u272, u273, u274, u275, u276, u277, u278, u279, u280, u281, u282, u283, u284, u285, u286, u287, u288, u289, u290, u291, u292, u293, u294, u295, u296, u297, u298, u299, u300, u301, u302, u303, u304, u305, u306, u307, u308, u309, u310, u311, u312, u313, u314, u315, u316, u317, u318], []⟩ W := by
  simp only [Try.f3, Option.getD_some, sndSeq] at hC
  subst hC
  dsimp only
  go_upto_block 2 with fail
  go_cut [] (fun wx => Run w0 wx b cm gm a0 sl v0 v1 v2 v3 v4 acc)
  case first => as_aux_lemma =>
    go_upto_region 18 with fail
    go_loopw [15] (fun i wx => ∃ k : Nat, k ≤ len3 ∧ i = .int .i64 k ∧ Run w0 wx b cm gm a0 sl v0 v1 v2 v3 v4 (acc.take k)) (fun i _ => len3 - (intOf i).toNat)
    case atStart => exact ⟨0, Nat.zero_le _, rfl, HR.out⟩
    case round =>
    obtain ⟨k, hk, rfl, hRk⟩ := hrel
    by_cases hlt : k < len3
    case pos => as_aux_lemma =>
      have HRk : Hid _ := hRk
      have T2' := HT.out.kept0 (Kept.of_below hRk.bel)
      obtain ⟨b1, o1, b2, o2, ea, eb, c1, c2⟩ := T2'.cells (by have := HL.out; omega)
      obtain ⟨⟨x1, x2⟩, hxk⟩ : ∃ x, acc.getD k (0, 0) = x := ⟨_, rfl⟩
      have d1 := c1 k (by have := HL.out; omega)
      have d2 := c2 k (by have := HL.out; omega)
      rw [hxk] at d1 d2
      obtain ⟨_, _, ea', hb1, _⟩ := HT.out.one (by have := HL.out; omega)
      obtain ⟨_, _, eb', hb2, _⟩ := HT.out.two (by have := HL.out; omega)
      rw [ea] at ea'
      rw [eb] at eb'
      cases ea'
      cases eb'
      have hxo : okP (x1, x2) := by have := Hok.out _ (mem_of_at (acc := acc) (t := k) (by have := HL.out; omega)); rwa [hxk] at this
      have htake : Hid (acc.take (k + 1) = acc.take k ++ [(x1, x2)]) := by
        show _ = _
        have hlt' : k < acc.length := by have := HL.out; omega
        rw [List.take_add_one, List.getElem?_eq_getElem hlt']
        simp only [List.getD_eq_getElem?_getD, List.getElem?_eq_getElem hlt', Option.getD_some] at hxk
        simp [hxk]
      have H7 : Hid (∀ W, Run w0 W b cm gm a0 sl v0 v1 v2 v3 v4 (acc.take k) → Calls Try.prog 7 #[.pointer (some ⟨b, 0, none⟩), .int .i64 x1, .int .u64 x2] W fun e w' => e = .returned (.tuple #[]) ∧ GoneMap w' gm (acc.take k ++ [(x1, x2)]) ∧ Kept [gm] W w') := fun W h => gone7 b cm gm a0 sl v0 v1 v2 v3 v4 (acc.take k) (x1, x2) W h.st h.gone hxo (by simp; omega)
      have q1 : b1 ≠ gm := by have := hRk.lg; omega
      have q2 : b2 ≠ gm := by have := hRk.lg; omega
      have hsz := hRk.bel.size
      subst ea eb
      clear c1 c2 hxk T2' hRk hxo
      go_upto_region 20 with fail
      have HRd : Hid (Run w0 wr.drew b cm gm a0 sl v0 v1 v2 v3 v4 (acc.take k)) := HRk.out.kept (S := []) ((Kept.refl [] wr).drew) (by simp) (by simp) (by simp) (by simp)
      go_region_held3 (fun w' => w'.cell? ⟨b1, o1 + k, none⟩ = some (.int .i64 x1) ∧ w'.cell? ⟨b2, o2 + k, none⟩ = some (.int .u64 x2)) (first | go_keep | (exact ⟨(hk7.cell (p := ⟨b1, o1 + k, none⟩) (by simp; omega) (by simpa using q1)).trans d1, (hk7.cell (p := ⟨b2, o2 + k, none⟩) (by simp; omega) (by simpa using q2)).trans d2⟩))
        (first | (go_at_call 7; refine (H7.out _ HRd.out).mono ?_; rintro e w' ⟨rfl, hgone, hk7⟩))
      have HR' : Hid (Run w0 w' b cm gm a0 sl v0 v1 v2 v3 v4 (acc.take (k + 1))) := by
        rw [htake.out]; exact HRd.out.put hk7 hgone
      clear hgone
      go_wp2
      go_roundw
      case rel => exact ⟨k + 1, by omega, by go_num, HR'.out⟩
      case measure => simp [intOf]; omega
    have HRk : Hid (Run w0 wr b cm gm a0 sl v0 v1 v2 v3 v4 acc) := by
      have : acc.take k = acc := List.take_of_length_le (by have := HL.out; omega)
      rw [← this]; exact hRk
    clear hRk
    go_wp2
    go_meet
    exact HRk.out
  case rest => as_aux_lemma =>
  refine (show ∀ a w, Code.wp Try.prog _ _ a w → _ from by assumption) _ _ ?_
  exact t21 _ (by rfl) w0 wc a0 a2 cap2 a3 len3 cap3 a4 a5 acc b cm gm sl v0 v1 v2 v3 v4 hcut HT HL l3 Hok Hx

/-! ### region 16 -/
set_option maxRecDepth 100000 in
set_option maxHeartbeats 8000000 in
theorem t16 {u6 u7 u8 u9 u10 u11 u12 u13 u14 u15 u16 u17 u18 u19 u20 u21 u22 u23 u24 u25 u26 u27 u28 u29 u30 u31 u32 u33 u34 u35 u36 u37 u38 u39 u40 u41 u42 u43 u44 u45 u46 u47 u48 u49 u50 u51 u52 u53 u54 u55 u56 u57 u58 u59 u60 u61 u62 u63 u64 u65 u66 u67 u68 u69 u70 u71 u72 u73 u74 u75 u76 u77 u78 u79 u80 u81 u82 u83 u84 u85 u86 u87 u88 u89 u90 u91 u92 u93 u94 u95 u96 u97 u98 u99 u100 u101 u102 u103 u104 u105 u106 u107 u108 u109 u110 u111 u112 u113 u114 u115 u116 u117 u118 u119 u120 u121 u122 u123 u124 u125 u126 u127 u128 u129 u130 u131 u132 u133 u134 u135 u136 u137 u138 u139 u140 u141 u142 u143 u144 u145 u146 u147 u148 u149 u150 u151 u152 u153 u154 u155 u156 u157 u158 u159 u160 u161 u162 u163 u164 u165 u166 u167 u168 u169 u170 u171 u172 u173 u174 u175 u176 u177 u178 u179 u180 u181 u182 u183 u184 u185 u186 u187 u188 u189 u190 u191 u192 u193 u194 u195 u196 u197 u198 u199 u200 u201 u202 u203 u204 u205 u206 u207 u208 u209 u210 u211 u212 u213 u214 u215 u216 u217 u218 u219 u220 u221 u222 u223 u224 u225 u226 u227 u228 u229 u230 u231 u232 u233 u234 u235 u236 u237 u238 u239 u240 u241 u242 u243 u244 u245 u246 u247 u248 u249 u250 u251 u252 u253 u254 u255 u256 u257 u258 u259 u260 u261 u262 u263 u264 u265 u266 u267 u268 u269 u270 u271 u272 u273 u274 u275 u276 u277 u278 u279 u280 u281 u282 u283 u284 u285 u286 u287 u288 u289 u290 u291 u292 u293 u294 u295 u296 u297 u298 u299 u300 u301 u302 u303 u304 u305 u306 u307 u308 u309 u310 u311 u312 u313 u314 u315 u316 u317 u318 : Value} (C : Code) (hC : C = (sndSeq (sndSeq (sndSeq (sndSeq (sndSeq (sndSeq (sndSeq (Try.f3.body.getD .skip))))))))) (w0 W : World) (a0 : Int) (a2 : Option Addr) (cap2 : Nat) (a3 : Option Addr) (len3 cap3 : Nat) (a4 a5 : Int) (acc : List (Int × Int)) (a1 : Option Addr) (len1 cap1 : Nat) (z1 : List Int)
    (hW : w0 = W) (H1 : Hid (Src .u64 w0 a1 len1 z1)) (l1 : len1 ≤ 131072) (HT : Hid (Two w0 a2 a3 acc)) (HL : Hid (len3 = acc.length)) (l3 : len3 ≤ 4096) (Hok : Hid (∀ x ∈ acc, okP x)) (Hx : Hid (okP (a4, a5))) :
    C.wp Try.prog (bodyPost Try.prog Try.f3 fun e w' => e = .returned (.bool true) ∧ Below w0.heap.size w0 w') ⟨#[.int .u64 a0, .slice a1 len1 cap1, .slice a2 len3 cap2, .slice a3 len3 cap3, .int .i64 a4, .int .u64 a5, u6, u7, u8, u9, u10, u11, u12, u13, u14, u15, u16, u17, u18, u19, u20, u21, u22, u23, u24, u25, u26, u27, u28, u29, u30, u31, u32, u33, u34, u35, u36, u37, u38, u39, u40, u41, u42, u43, u44, u45, u46, u47, u48, u49, u50, u51, u52, u53, u54, u55, u56, u57, u58, u59, u60, u61, u62, u63, u64, u65, u66, u67, u68, u69, u70, u71, u72, u73, u74, u75, u76, u77, u78, u79, u80, u81, u82, u83, u84, u85, u86, u87, u88, u89, u90, u91, u92, u93, u94, u95, u96, u97, u98, u99, u100, u101, u102, u103, u104, u105, u106, u107, u108, u109, u110, u111, u112, u113, u114, u115, u116, u117, u118, u119, u120, u121, u122, u123, u124, u125, u126, u127, u128, u129, u130, u131, u132, u133, u134, u135, u136, u137, u138, u139, u140, u141, u142, u143, u144, u145, u146, u147, u148, u149, u150, u151, u152, u153, u154, u155, u156, u157, u158, u159, u160, u161, u162, u163, u164, u165, u166, u167, u168, u169, u170, u171, u172, u173, u174, u175, u176, u177, u178, u179, u180, u181, u182, u183, u184, u185, u186, u187, u188, u189, u190, u191, u192, u193, u194, u195, u196, u197, u198, u199, u200, u201, u202, u203, u204, u205, u206, u207, u208, u209, u210, u211, u212, u213, u214, u215, u216, u217, u218, u219, u220, u221, u222, u223, u224, u225, u226, u227, u228, u229, u230, u231, u232, u233, u234, u235, u236, u237, u238, u239, u240, u241, u242, u243, u244, u245, u246, u247, u248, u249, u250, u251, u252, u253, u254, u255, u256, u257, u258, u259, u260, u261, u262, u263, u264, u265, u266, u267, u268, u269, u270, u271, u272, u273, u274, u275, u276, u277, u278, u279, u280, u281, u282, u283, u284, u285, u286, u287, u288, u289, u290, u291, u292, u293, u294, u295, u296, u297, u298, u299, u300, u301, u302, u303, u304, u305, u306, u307, u308, u309, u310, u311, u312, u313, u314, u315, u316, u317, u318], []⟩ W := by
  simp only [Try.f3, Option.getD_some, sndSeq] at hC
  subst hC
  dsimp only
  subst hW
  go_upto_region 16 with fail
  go_cut [14] (fun p wx => ∃ b cm gm sl v0 v1 v2 v3 v4, p = .pointer (some ⟨b, 0, none⟩) ∧ Run w0 wx b cm gm a0 sl v0 v1 v2 v3 v4 [])
  case first => as_aux_lemma =>
    go_wp2_with fail
    refine (clone6 a1 len1 cap1 z1 w0 H1.out l1).mono ?_
    rintro e w1 ⟨⟨x, l, c, rfl⟩, hk1⟩
    go_wp2_with fail
    refine (new5 a0 x l c w1).mono ?_
    rintro e w2 ⟨b, cm, gm, v0, v1, v2, v3, v4, rfl, hst, hcm, hgm, g1, g2, g3, g4, g5, g6, hk2⟩
    have hs := hk1.size
    have HR : Hid (Run w0 w2 b cm gm a0 (.slice x l c) v0 v1 v2 v3 v4 []) := ⟨hst, hcm, hgm, (hk1.trans hk2).to_below, by omega, by omega, by omega, g4, g5, g6⟩
    clear hst hcm hgm
    go_wp2
    go_meet
    exact ⟨b, cm, gm, _, v0, v1, v2, v3, v4, rfl, HR.out⟩
  case rest => as_aux_lemma =>
  obtain ⟨b, cm, gm, sl, v0, v1, v2, v3, v4, rfl, hR⟩ := hcut
  refine (show ∀ a w, Code.wp Try.prog _ _ a w → _ from by assumption) _ _ ?_
  exact t17 _ (by rfl) w0 wc a0 a2 cap2 a3 len3 cap3 a4 a5 acc b cm gm sl v0 v1 v2 v3 v4 hR HT HL l3 Hok Hx
end Go.Proofs.Qxb6614904a
