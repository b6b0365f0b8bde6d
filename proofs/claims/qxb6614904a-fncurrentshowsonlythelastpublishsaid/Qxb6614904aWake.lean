/-
  THE END OF publish: the loop over the two nil channels, each met by a select with a default.
-/
import Derived.Test.Qxb6614904aBase
namespace Go.Proofs.Qxb6614904a
open Go.Conc Go.RowKit

/-- c is the loop's body, taken out of the loaded function. -/
def IsWake (c : Code) : Prop := c = unLoop (unBlock (sndSeq (sndSeq (sndSeq (sndSeq (sndSeq (sndSeq (sndSeq (Try.f14.body.getD .skip)))))))))

/-- What the call comes to: it returns, in the world w0. -/
def Ends14 (cs : List Frame) (w0 : World) (g' : Goroutine) (w' : World) : Prop := ∃ e fr, g' = G fr cs ∧ (e = .returned (.tuple #[]) ∧ w' = w0) ∧ fr.fn = 14 ∧ fr.leaving Try.prog w' e
theorem bd50 (w : World) : (Instr.build 50 #[]).run Try.prog w = .ok (.agg #[]) w := run_build w 50 #[] #[] (by kernel_rfl)

set_option maxRecDepth 100000 in
set_option maxHeartbeats 1000000 in
theorem wake_exit (c : Code) (hc : IsWake c) (cs : List Frame) (w0 : World) (g : Nat) (u0 u1 u2 u3 u4 u5 u6 u7 u8 u9 u10 u11 u12 u13 u14 u15 u16 u17 u18 u19 u20 u21 u22 u23 u24 u25 u26 u27 u28 u29 u30 u31 u32 u33 u34 u35 u36 u37 u38 u39 u40 u41 u42 u43 u44 u45 u46 u47 u48 u49 u50 u51 u52 u53 u54 u55 u56 u57 u58 u59 u60 u61 u62 u63 u64 u65 u66 u67 u68 u69 u70 u71 u72 u73 u74 u75 u79 u80 u81 u82 u83 u84 u85 u86 u87 : Value) :
    LoneTo Try.prog (Ends14 cs w0) (G ((base 14).at ⟨#[u0, u1, u2, u3, u4, u5, u6, u7, u8, u9, u10, u11, u12, u13, u14, u15, u16, u17, u18, u19, u20, u21, u22, u23, u24, u25, u26, u27, u28, u29, u30, u31, u32, u33, u34, u35, u36, u37, u38, u39, u40, u41, u42, u43, u44, u45, u46, u47, u48, u49, u50, u51, u52, u53, u54, u55, u56, u57, u58, u59, u60, u61, u62, u63, u64, u65, u66, u67, u68, u69, u70, u71, u72, u73, u74, u75, .slice (some ⟨g, 0, none⟩) 2 2, .int .i64 2, .int .i64 2, u79, u80, u81, u82, u83, u84, u85, u86, u87], []⟩ [.code c, .inLoop c, .inBlock 2]) cs) w0 := by
  unfold IsWake at hc
  refine LoneTo.goes (n := 20) ?_
  simp only [hc, Try.f14, Option.getD_some, sndSeq, unBlock, unLoop]
  s_c stepG_seq
  s_reg
  s_op
  s_c stepG_region_end
  s_c stepG_seq
  s_cond false
  s_exit
  s_stop
  refine LoneTo.step step_end ?_
  exact LoneTo.done ⟨.returned (.tuple #[]), _, rfl, ⟨rfl, rfl⟩, rfl, rfl, rfl, rfl, _, Try.func14, by simp [results, Try.f14, Frame.at]⟩

set_option maxRecDepth 100000 in
set_option maxHeartbeats 2000000 in
theorem wake_round1 (c : Code) (hc : IsWake c) (cs : List Frame) (w0 : World) (g : Nat) (h1 : w0.cell? ⟨g, 1, none⟩ = some (.chan none)) (u0 u1 u2 u3 u4 u5 u6 u7 u8 u9 u10 u11 u12 u13 u14 u15 u16 u17 u18 u19 u20 u21 u22 u23 u24 u25 u26 u27 u28 u29 u30 u31 u32 u33 u34 u35 u36 u37 u38 u39 u40 u41 u42 u43 u44 u45 u46 u47 u48 u49 u50 u51 u52 u53 u54 u55 u56 u57 u58 u59 u60 u61 u62 u63 u64 u65 u66 u67 u68 u69 u70 u71 u72 u73 u74 u75 u79 u80 u81 u82 u83 u84 u85 u86 u87 : Value) :
    LoneTo Try.prog (Ends14 cs w0) (G ((base 14).at ⟨#[u0, u1, u2, u3, u4, u5, u6, u7, u8, u9, u10, u11, u12, u13, u14, u15, u16, u17, u18, u19, u20, u21, u22, u23, u24, u25, u26, u27, u28, u29, u30, u31, u32, u33, u34, u35, u36, u37, u38, u39, u40, u41, u42, u43, u44, u45, u46, u47, u48, u49, u50, u51, u52, u53, u54, u55, u56, u57, u58, u59, u60, u61, u62, u63, u64, u65, u66, u67, u68, u69, u70, u71, u72, u73, u74, u75, .slice (some ⟨g, 0, none⟩) 2 2, .int .i64 2, .int .i64 1, u79, u80, u81, u82, u83, u84, u85, u86, u87], []⟩ [.code c, .inLoop c, .inBlock 2]) cs) w0 := by
  have hc0 := hc
  unfold IsWake at hc
  have hbd := bd50
  have hw1 : IntKind.i64.wrap (1 + 1) = 2 := by decide
  refine LoneTo.goes (n := 40) ?_
  rw [show (.code c : Item) = .code (unLoop (unBlock (sndSeq (sndSeq (sndSeq (sndSeq (sndSeq (sndSeq (sndSeq (Try.f14.body.getD .skip))))))))) ) from by rw [← hc]]
  simp only [Try.f14, Option.getD_some, sndSeq, unBlock, unLoop]
  s_c stepG_seq
  s_reg
  s_op
  s_c stepG_region_end
  s_c stepG_seq
  s_cond true
  s_c stepG_skip
  s_c stepG_seq
  s_c stepG_block
  s_c stepG_seq
  s_reg
  s_op
  s_op
  s_op
  s_c stepG_region_end
  s_c stepG_seq
  s_c stepG_seq
  s_reg
  s_op
  s_c stepG_region_end
  s_reg
  s_op
  s_c stepG_region_end
  s_c stepG_seq
  s_reg
  s_stop
  refine LoneTo.step (step_lone_select_send_nil (v := .agg #[]) (z' := .agg #[]) (stepG_comm (cases := #[scaseNil (.agg #[]) (.agg #[])]) (blocking := false) (shape := .select) (w' := w0) rfl rfl (by decide) (by simp [go_sem, execOp, scaseNil, Act.eval]))) ?_
  rw [Frame.finish_at]
  walk_nrm
  refine LoneTo.goes (n := 20) ?_
  s_op
  s_op
  s_c stepG_region_end
  s_c stepG_block
  s_cond false
  s_c stepG_skip
  s_c stepG_inBlock
  s_c stepG_inBlock
  s_reg
  s_op
  s_op
  s_c stepG_region_end
  s_c stepG_inLoop
  s_stop
  exact wake_exit c hc0 cs w0 g _ _ _ _ _ _ _ _ _ _ _ _ _ _ _ _ _ _ _ _ _ _ _ _ _ _ _ _ _ _ _ _ _ _ _ _ _ _ _ _ _ _ _ _ _ _ _ _ _ _ _ _ _ _ _ _ _ _ _ _ _ _ _ _ _ _ _ _ _ _ _ _ _ _ _ _ _ _ _ _ _ _ _ _ _

set_option maxRecDepth 100000 in
set_option maxHeartbeats 2000000 in
theorem wake_round0 (c : Code) (hc : IsWake c) (cs : List Frame) (w0 : World) (g : Nat) (h0 : w0.cell? ⟨g, 0, none⟩ = some (.chan none)) (h1 : w0.cell? ⟨g, 1, none⟩ = some (.chan none)) (u0 u1 u2 u3 u4 u5 u6 u7 u8 u9 u10 u11 u12 u13 u14 u15 u16 u17 u18 u19 u20 u21 u22 u23 u24 u25 u26 u27 u28 u29 u30 u31 u32 u33 u34 u35 u36 u37 u38 u39 u40 u41 u42 u43 u44 u45 u46 u47 u48 u49 u50 u51 u52 u53 u54 u55 u56 u57 u58 u59 u60 u61 u62 u63 u64 u65 u66 u67 u68 u69 u70 u71 u72 u73 u74 u75 u79 u80 u81 u82 u83 u84 u85 u86 u87 : Value) :
    LoneTo Try.prog (Ends14 cs w0) (G ((base 14).at ⟨#[u0, u1, u2, u3, u4, u5, u6, u7, u8, u9, u10, u11, u12, u13, u14, u15, u16, u17, u18, u19, u20, u21, u22, u23, u24, u25, u26, u27, u28, u29, u30, u31, u32, u33, u34, u35, u36, u37, u38, u39, u40, u41, u42, u43, u44, u45, u46, u47, u48, u49, u50, u51, u52, u53, u54, u55, u56, u57, u58, u59, u60, u61, u62, u63, u64, u65, u66, u67, u68, u69, u70, u71, u72, u73, u74, u75, .slice (some ⟨g, 0, none⟩) 2 2, .int .i64 2, .int .i64 0, u79, u80, u81, u82, u83, u84, u85, u86, u87], []⟩ [.code c, .inLoop c, .inBlock 2]) cs) w0 := by
  have hc0 := hc
  unfold IsWake at hc
  have hbd := bd50
  have hw1 : IntKind.i64.wrap (0 + 1) = 1 := by decide
  refine LoneTo.goes (n := 40) ?_
  rw [show (.code c : Item) = .code (unLoop (unBlock (sndSeq (sndSeq (sndSeq (sndSeq (sndSeq (sndSeq (sndSeq (Try.f14.body.getD .skip))))))))) ) from by rw [← hc]]
  simp only [Try.f14, Option.getD_some, sndSeq, unBlock, unLoop]
  s_c stepG_seq
  s_reg
  s_op
  s_c stepG_region_end
  s_c stepG_seq
  s_cond true
  s_c stepG_skip
  s_c stepG_seq
  s_c stepG_block
  s_c stepG_seq
  s_reg
  s_op
  s_op
  s_op
  s_c stepG_region_end
  s_c stepG_seq
  s_c stepG_seq
  s_reg
  s_op
  s_c stepG_region_end
  s_reg
  s_op
  s_c stepG_region_end
  s_c stepG_seq
  s_reg
  s_stop
  refine LoneTo.step (step_lone_select_send_nil (v := .agg #[]) (z' := .agg #[]) (stepG_comm (cases := #[scaseNil (.agg #[]) (.agg #[])]) (blocking := false) (shape := .select) (w' := w0) rfl rfl (by decide) (by simp [go_sem, execOp, scaseNil, Act.eval]))) ?_
  rw [Frame.finish_at]
  walk_nrm
  refine LoneTo.goes (n := 20) ?_
  s_op
  s_op
  s_c stepG_region_end
  s_c stepG_block
  s_cond false
  s_c stepG_skip
  s_c stepG_inBlock
  s_c stepG_inBlock
  s_reg
  s_op
  s_op
  s_c stepG_region_end
  s_c stepG_inLoop
  s_stop
  exact wake_round1 c hc0 cs w0 g h1 _ _ _ _ _ _ _ _ _ _ _ _ _ _ _ _ _ _ _ _ _ _ _ _ _ _ _ _ _ _ _ _ _ _ _ _ _ _ _ _ _ _ _ _ _ _ _ _ _ _ _ _ _ _ _ _ _ _ _ _ _ _ _ _ _ _ _ _ _ _ _ _ _ _ _ _ _ _ _ _ _ _ _ _ _

end Go.Proofs.Qxb6614904a
