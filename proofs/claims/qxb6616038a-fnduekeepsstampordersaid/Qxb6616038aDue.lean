/-
  THE WALKS OF FnDueKeepsStampOrder AND ITS CALLEES.
-/
import Derived.Test.Qxb6616038aRows
import Derived.WalkKit
import Derived.ProofKit
import Derived.Deep.QuietTactic
import Derived.BigQuiet
import Derived.Deep.DeepCutAuto
import Derived.Deep.WholeRow
import Derived.Deep.MidRow
namespace Go.Proofs.Qxb6616038a
open Go.RowKit

/-- zzBytes: true or false by the two lengths. -/
theorem bytes5 (a0 a1 a2 : Int) (a3 : ByteArray) (a4 a5 : Int) (a6 : ByteArray) (w : World) (h3 : a3.size ≤ maxLen) (h6 : a6.size ≤ maxLen) :
    Calls Try.prog 5 #[.int .i64 a0, .int .i64 a1, .int .u64 a2, .string a3, .int .i64 a4, .int .u64 a5, .string a6] w fun e w' =>
      e = .returned (.bool (decide (a3.size + a6.size ≤ 1048576))) ∧ w' = w := by
  unfold maxLen at h3 h6
  by_cases c1 : a3.size ≤ 1048576
  · by_cases c2 : a6.size ≤ 1048576
    · by_cases c3 : a3.size + a6.size ≤ 1048576
      all_goals
        go_enter Try.func5, Try.ntmps5
        go_wp2
        go_ret
        exact ⟨by simp; omega, rfl⟩
    · go_enter Try.func5, Try.ntmps5
      go_wp2
      go_ret
      exact ⟨by simp; omega, rfl⟩
  · go_enter Try.func5, Try.ntmps5
    go_wp2
    go_ret
    exact ⟨by simp; omega, rfl⟩
/-- w' is W and what was made since. -/
def Past (W w' : World) : Prop := Grown W w' ∧ Below W.heap.size W w'
theorem Past.refl (W : World) : Past W W := ⟨Grown.refl W, Below.refl _ W⟩
theorem Past.alloc {W w' : World} (h : Past W w') (c : Array Value) (t : TypeId) : Past W (w'.alloc (.cells c t)) := ⟨h.1.alloc c t, h.2.alloc h.2.size _⟩
theorem Past.allocMap {W w' : World} (h : Past W w') (es : Array MapEntry) (c : Nat) : Past W (w'.alloc (.map es c)) := ⟨h.1.allocMap es c, h.2.alloc h.2.size _⟩
theorem Past.drewN {W w' : World} (h : Past W w') (n : Nat) : Past W (w'.drewN n) := ⟨h.1, h.2.trans ⟨rfl, rfl, rfl, Nat.le_refl _, fun _ _ => rfl⟩⟩
theorem Past.trans {a b c : World} (h : Past a b) (k : Past b c) : Past a c := by
  have hs := h.2.size
  refine ⟨⟨(h.2.trans (k.2.mono hs)).frame _, fun x => (k.1.2.1 x).trans (h.1.2.1 x), Nat.le_trans h.1.2.2 k.1.2.2⟩, h.2.trans (k.2.mono hs)⟩

set_option maxHeartbeats 1000000 in
theorem early9 (a0 : Int) (w : World) :
    Calls Try.prog 9 #[.int .i64 a0] w fun e w' =>
      (∃ m1 m2 m3, e = .returned (.agg #[.int .i64 a0, .slice none 0 0, .map m1, .slice none 0 0, .map m2, .map m3, .int .u64 0])) ∧ Past w w' := by
  have hmm := @run_makeMap Try.prog
  go_enter Try.func9, Try.ntmps9
  go_wp2
  refine bodyPost_ret (v := .agg #[.int .i64 a0, .slice none 0 0, .map (some (w.heap.size + 1)), .slice none 0 0, .map (some (w.heap.size + 1 + 1)), .map (some (w.heap.size + 1 + 1 + 1)), .int .u64 0]) (by simp [results, Try.results9, go_sem]) rfl ⟨⟨_, _, _, rfl⟩, ?_⟩
  exact ((((Past.refl w).alloc _ _).allocMap _ _).allocMap _ _).allocMap _ _

set_option maxHeartbeats 1000000 in
theorem early6 (a0 : Int) (w : World) :
    Calls Try.prog 6 #[.int .i64 a0] w fun e w' =>
      (∃ k, e = .returned (.pointer (some ⟨k, 0, none⟩)) ∧ k < w'.heap.size ∧ w'.cell? ⟨k, 0, none⟩ = some (.int .i64 a0)) ∧ Past w w' := by
  go_enter Try.func6, Try.ntmps6
  go_wp2_with fail
  refine (early9 a0 _).mono ?_
  rintro e w1 ⟨⟨m1, m2, m3, rfl⟩, hp⟩
  go_wp2
  go_ret
  exact ⟨⟨_, rfl, by simp, by simp⟩, hp.alloc _ _⟩

set_option maxHeartbeats 1000000 in
theorem due10 (k : Nat) (win clock seq : Int) (rep : ByteArray) (W : World) (hc : W.cell? ⟨k, 0, none⟩ = some (.int .i64 win)) (hk : k < W.heap.size)
    (b1 : -9223372036854775808 ≤ clock + win) (b2 : clock + win ≤ 9223372036854775807) :
    Calls Try.prog 10 #[.pointer (some ⟨k, 0, none⟩), .agg #[.string ByteArray.empty, .string ByteArray.empty, .slice none 0 0, .string ByteArray.empty, .int .i64 clock, .int .u64 seq, .string rep, .int .u64 0, .pointer none, .int .u8 0, .int .u8 0, .int .u8 0, .int .u8 0, .int .u8 0, .int .u8 0, .int .u8 0, .int .u8 0, .int .u8 0, .int .u8 0, .int .u8 0, .int .u8 0, .int .u8 0, .int .u8 0, .int .u8 0, .int .u8 0]] W fun e w' =>
      e = .returned (.int .i64 (clock + win)) ∧ Past W w' := by
  go_enter Try.func10, Try.ntmps10
  go_wp2
  go_quiet (fail)
  go_wp2
  go_ret
  exact ⟨rfl, ((Past.refl W).alloc _ _).drewN _⟩

/-- A command's cells, but for the stamp all nought. -/
def cmdCells (clock seq : Int) (rep : ByteArray) : List Value := [.string ByteArray.empty, .string ByteArray.empty, .slice none 0 0, .string ByteArray.empty, .int .i64 clock, .int .u64 seq, .string rep, .int .u64 0, .pointer none, .int .u8 0, .int .u8 0, .int .u8 0, .int .u8 0, .int .u8 0, .int .u8 0, .int .u8 0, .int .u8 0, .int .u8 0, .int .u8 0, .int .u8 0, .int .u8 0, .int .u8 0, .int .u8 0, .int .u8 0, .int .u8 0]

theorem range_new (w : World) (cs : List Value) (t : TypeId) : (w.alloc (.cells cs.toArray t)).rangeAt w.heap.size 0 cs := fun j v hv => by
  rw [Nat.zero_add, World.cell?_alloc_at _ _ _ _ rfl]
  simpa using hv

set_option maxHeartbeats 1000000 in
theorem due7 (k : Nat) (win clock seq : Int) (rep : ByteArray) (W : World) (hc : W.cell? ⟨k, 0, none⟩ = some (.int .i64 win)) (hk : k < W.heap.size)
    (b1 : -9223372036854775808 ≤ clock + win) (b2 : clock + win ≤ 9223372036854775807) :
    Calls Try.prog 7 #[.pointer (some ⟨k, 0, none⟩), .agg (cmdCells clock seq rep).toArray] W fun e w' =>
      e = .returned (.int .i64 (clock + win)) ∧ Past W w' := by
  have hd : Hid (Calls Try.prog 10 #[.pointer (some ⟨k, 0, none⟩), .agg (cmdCells clock seq rep).toArray] (W.alloc (.cells (cmdCells clock seq rep).toArray 33)) fun e w' => e = .returned (.int .i64 (clock + win)) ∧ Past (W.alloc (.cells (cmdCells clock seq rep).toArray 33)) w') :=
    due10 k win clock seq rep (W.alloc (.cells (cmdCells clock seq rep).toArray 33)) ((((Below.refl _ W).alloc (Nat.le_refl _) _).cell (p := ⟨k, 0, none⟩) hk).trans hc) (by simp; omega) b1 b2
  have hr := range_new W (cmdCells clock seq rep) 33
  have hp0 : Past W (W.alloc (.cells (cmdCells clock seq rep).toArray 33)) := (Past.refl W).alloc _ _
  have hl : (cmdCells clock seq rep).length = 25 := rfl
  generalize cmdCells clock seq rep = C at *
  go_enter Try.func7, Try.ntmps7
  go_wp2_with (refine wpList_load_mid rfl 33 _ rfl W.heap.size 0 rfl C _ hr Try.underlying33 rfl (by rw [hl]; kernel_rfl) ?_)
  refine hd.out.mono ?_
  rintro e w1 ⟨rfl, hp⟩
  clear hd hr
  go_wp2
  go_ret
  exact ⟨rfl, hp0.trans hp⟩

/-- A whole struct into the block that was made last, at the list of a plain region's operations. -/
theorem wpList_store_new {P : Program} {ops : Array Oper} {rest : List Oper} {op : Oper} {a : Act} {w : World} {Q : Exit → Act → World → Prop} (hgd : op.guard = none) (ty : TypeId) (x y : Operand) (ho : op.op = .store ty x y)
    (c c' : Array Value) (hx : a.eval x = .pointer (some ⟨w.heap.size, 0, none⟩)) (hy : a.eval y = .agg c') (hi : (P.info? ty).map (·.size) = some c'.size) (hcc : c.size = c'.size) (h1 : c'.all (·.oneCell') = true)
    (h : wpList P ops Q rest (a.put op.dst undef) (w.alloc (.cells c' ty))) : wpList P ops Q (op :: rest) a (w.alloc (.cells c ty)) :=
  wpList_plain hgd fun K hK => by
    unfold Oper.wp execOp
    simp only [ho, hx, hy, Instr.storeAt, Instr.sureAddr, Sem.run_bind, Sem.run_pure, Result.andThen_ok, run_storeVar_new w ty c c' hi hcc h1]
    exact hK _ _ h

theorem cmd_one (clock seq : Int) (rep : ByteArray) : (cmdCells clock seq rep).toArray.all (·.oneCell') = true := by simp [cmdCells, Value.oneCell']

theorem Past.range {W w' : World} (h : Past W w') {b o : Nat} {cs : List Value} (hb : b < W.heap.size) (hr : W.rangeAt b o cs) : w'.rangeAt b o cs :=
  fun j v hv => (h.2.cell (p := ⟨b, o + j, none⟩) hb).trans (hr j v hv)
theorem Past.cell {W w' : World} (h : Past W w') {b o : Nat} {v : Value} (hb : b < W.heap.size) (hc : W.cell? ⟨b, o, none⟩ = some v) : w'.cell? ⟨b, o, none⟩ = some v :=
  (h.2.cell (p := ⟨b, o, none⟩) hb).trans hc

theorem two_blocks (w1 : World) (C1 C2 : List Value) : ((w1.alloc (.cells C1.toArray 33)).alloc (.cells C2.toArray 33)).rangeAt w1.heap.size 0 C1 ∧ ((w1.alloc (.cells C1.toArray 33)).alloc (.cells C2.toArray 33)).rangeAt (w1.heap.size + 1) 0 C2 ∧
    Past w1 ((w1.alloc (.cells C1.toArray 33)).alloc (.cells C2.toArray 33)) ∧ w1.heap.size + 1 < ((w1.alloc (.cells C1.toArray 33)).alloc (.cells C2.toArray 33)).heap.size := by
  have h2 := range_new (w1.alloc (.cells C1.toArray 33)) C2 33
  rw [World.size_alloc] at h2
  exact ⟨((Past.refl _).alloc _ _).range (by simp) (range_new w1 C1 33), h2, ((Past.refl w1).alloc _ _).alloc _ _, by simp⟩

theorem sub_same (a b c : Int) : (b + c) - (a + c) = b - a := by omega
theorem le_same (a b c : Int) : decide (a + c ≤ b + c) = decide (a ≤ b) := by rw [decide_eq_decide]; omega
theorem lt_same (a b c : Int) : decide (a + c < b + c) = decide (a < b) := by rw [decide_eq_decide]; omega

set_option maxHeartbeats 1000000 in
set_option maxRecDepth 100000 in
theorem due_main (a0 a1 a2 : Int) (a3 : ByteArray) (a4 a5 : Int) (a6 : ByteArray) (w : World) (h3 : a3.size ≤ maxLen) (h6 : a6.size ≤ maxLen) (hs : a3.size + a6.size ≤ 1048576)
    (l1 : -9223372036854775808 ≤ a1) (l4 : -9223372036854775808 ≤ a4) (g0 : 0 ≤ a0) (g1 : a1 + a0 ≤ 9223372036854775807) (g4 : a4 + a0 ≤ 9223372036854775807) (u0 : a0 ≤ 9223372036854775807) :
    Calls Try.prog 3 #[.int .i64 a0, .int .i64 a1, .int .u64 a2, .string a3, .int .i64 a4, .int .u64 a5, .string a6] w fun e w' => e = .returned (.bool true) ∧ Past w w' := by
  have hb : Hid (Calls Try.prog 5 #[.int .i64 a0, .int .i64 a1, .int .u64 a2, .string a3, .int .i64 a4, .int .u64 a5, .string a6] w fun e w' => e = .returned (.bool true) ∧ w' = w) := by
    refine (bytes5 a0 a1 a2 a3 a4 a5 a6 w h3 h6).mono fun e w' ⟨he, hw⟩ => ⟨?_, hw⟩
    rw [he, decide_eq_true hs]
  clear h3 h6
  go_enter Try.func3, Try.ntmps3
  go_wp2_with fail
  refine hb.out.mono ?_
  rintro e w' ⟨rfl, rfl⟩
  clear hb
  go_wp2_with fail
  refine (early6 a0 _).mono ?_
  rintro e w1 ⟨⟨k, rfl, hk, hc⟩, hp⟩
  go_upto_region 12 with fail
  go_cut [16] (fun s16 wx => s16 = .pointer (some ⟨w1.heap.size, 0, none⟩) ∧ wx = w1.alloc (.cells (cmdCells a1 a2 a3).toArray 33))
  case first => as_aux_lemma =>
    clear hp hc
    go_wp2_with (refine wpList_store_new rfl 33 _ _ rfl _ (cmdCells a1 a2 a3).toArray rfl rfl (by kernel_rfl) rfl (cmd_one a1 a2 a3) ?_)
    go_meet
    exact ⟨rfl, rfl⟩
  case rest =>
  obtain ⟨rfl, rfl⟩ := hcut
  go_upto_region 13 with fail
  go_cut [17] (fun s17 wx => s17 = .pointer (some ⟨w1.heap.size + 1, 0, none⟩) ∧ wx = (w1.alloc (.cells (cmdCells a1 a2 a3).toArray 33)).alloc (.cells (cmdCells a4 a5 a6).toArray 33))
  case first => as_aux_lemma =>
    generalize (cmdCells a1 a2 a3).toArray = C1 at *
    have hsz : (w1.alloc (.cells C1 33)).heap.size = w1.heap.size + 1 := by simp
    generalize w1.alloc (.cells C1 33) = w2 at *
    generalize w1.heap.size + 1 = m at *
    subst hsz
    go_wp2_with (refine wpList_store_new rfl 33 _ _ rfl _ (cmdCells a4 a5 a6).toArray rfl rfl (by kernel_rfl) rfl (cmd_one a4 a5 a6) ?_)
    go_meet
    exact ⟨rfl, rfl⟩
  case rest =>
  obtain ⟨rfl, rfl⟩ := hcut
  obtain ⟨r1, r2, hp2, hsz⟩ := two_blocks w1 (cmdCells a1 a2 a3) (cmdCells a4 a5 a6)
  have hp' := hp.trans hp2
  have hk2 := Nat.lt_of_lt_of_le hk hp2.2.size
  have hc2 := hp2.cell hk hc
  have hl1 : (cmdCells a1 a2 a3).length = 25 := rfl
  have hl2 : (cmdCells a4 a5 a6).length = 25 := rfl
  clear hc hp2
  generalize (w1.alloc (.cells (cmdCells a1 a2 a3).toArray 33)).alloc (.cells (cmdCells a4 a5 a6).toArray 33) = W at *
  have hd1 : Hid (Calls Try.prog 7 #[.pointer (some ⟨k, 0, none⟩), .agg (cmdCells a1 a2 a3).toArray] W fun e w' => e = .returned (.int .i64 (a1 + a0)) ∧ Past W w') :=
    due7 k a0 a1 a2 a3 W hc2 hk2 (by omega) (by omega)
  have hd2 : Hid (∀ w3, Past W w3 → Calls Try.prog 7 #[.pointer (some ⟨k, 0, none⟩), .agg (cmdCells a4 a5 a6).toArray] w3 fun e w' => e = .returned (.int .i64 (a4 + a0)) ∧ Past w3 w') :=
    fun w3 h3 => due7 k a0 a4 a5 a6 w3 (h3.cell hk2 hc2) (Nat.lt_of_lt_of_le hk2 h3.2.size) (by omega) (by omega)
  generalize cmdCells a1 a2 a3 = C1 at *
  generalize cmdCells a4 a5 a6 = C2 at *
  clear hc2 hk hk2
  go_wp2_with (refine wpList_load_mid rfl 33 _ rfl w1.heap.size 0 rfl C1 _ r1 Try.underlying33 rfl (by rw [hl1]; kernel_rfl) ?_)
  refine hd1.out.mono ?_
  rintro e w3 ⟨rfl, h3⟩
  clear hd1 r1
  have r3 := h3.range hsz r2
  have hp3 := hp'.trans h3
  have hd4 : Hid (Calls Try.prog 7 #[.pointer (some ⟨k, 0, none⟩), .agg C2.toArray] w3 fun e w' => e = .returned (.int .i64 (a4 + a0)) ∧ Past w3 w') := hd2.out w3 h3
  clear hd2 r2 hp' h3
  go_wp2_with (refine wpList_load_mid rfl 33 _ rfl (w1.heap.size + 1) 0 rfl C2 _ r3 Try.underlying33 rfl (by rw [hl2]; kernel_rfl) ?_)
  refine hd4.out.mono ?_
  rintro e w4 ⟨rfl, h4⟩
  have hp4 := hp3.trans h4
  clear hd4 r3 hp3 h4
  have he : (wrap64 (a4 + a0 - (a1 + a0)) == wrap64 (a4 - a1)) = true := by rw [sub_same]; simp
  have He : Hid ((wrap64 (a4 + a0 - (a1 + a0)) == wrap64 (a4 - a1)) = true) := he
  clear he
  go_wp2_with fail
  go_ret
  exact ⟨congrArg (fun b => Ending.returned (Value.bool b)) He.out, hp4⟩

set_option maxHeartbeats 1000000 in
set_option maxRecDepth 100000 in
theorem due_law (a0 a1 a2 : Int) (a3 : ByteArray) (a4 a5 : Int) (a6 : ByteArray) (w : World) (h3 : a3.size ≤ maxLen) (h6 : a6.size ≤ maxLen)
    (l1 : -9223372036854775808 ≤ a1) (l4 : -9223372036854775808 ≤ a4) (l0 : -9223372036854775808 ≤ a0) (u0 : a0 ≤ 9223372036854775807) :
    Calls Try.prog 3 #[.int .i64 a0, .int .i64 a1, .int .u64 a2, .string a3, .int .i64 a4, .int .u64 a5, .string a6] w fun e w' => e = .returned (.bool true) ∧ Past w w' := by
  have hb0 := bytes5 a0 a1 a2 a3 a4 a5 a6 w h3 h6
  by_cases hs : a3.size + a6.size ≤ 1048576
  · by_cases g0 : 0 ≤ a0
    · by_cases g1 : a1 + a0 ≤ 9223372036854775807
      · by_cases g4 : a4 + a0 ≤ 9223372036854775807
        · exact due_main a0 a1 a2 a3 a4 a5 a6 w h3 h6 hs l1 l4 g0 g1 g4 u0
        · rw [decide_eq_true hs] at hb0
          have hb : Hid (Calls Try.prog 5 #[.int .i64 a0, .int .i64 a1, .int .u64 a2, .string a3, .int .i64 a4, .int .u64 a5, .string a6] w fun e w' => e = .returned (.bool true) ∧ w' = w) := hb0
          clear hb0 h3 h6
          go_enter Try.func3, Try.ntmps3
          go_wp2_with fail
          refine hb.out.mono ?_
          rintro e w' ⟨rfl, rfl⟩
          go_wp2_with fail
          go_ret
          exact ⟨rfl, Past.refl _⟩
      · rw [decide_eq_true hs] at hb0
        have hb : Hid (Calls Try.prog 5 #[.int .i64 a0, .int .i64 a1, .int .u64 a2, .string a3, .int .i64 a4, .int .u64 a5, .string a6] w fun e w' => e = .returned (.bool true) ∧ w' = w) := hb0
        clear hb0 h3 h6
        go_enter Try.func3, Try.ntmps3
        go_wp2_with fail
        refine hb.out.mono ?_
        rintro e w' ⟨rfl, rfl⟩
        go_wp2_with fail
        go_ret
        exact ⟨rfl, Past.refl _⟩
    · rw [decide_eq_true hs] at hb0
      have hb : Hid (Calls Try.prog 5 #[.int .i64 a0, .int .i64 a1, .int .u64 a2, .string a3, .int .i64 a4, .int .u64 a5, .string a6] w fun e w' => e = .returned (.bool true) ∧ w' = w) := hb0
      clear hb0 h3 h6
      go_enter Try.func3, Try.ntmps3
      go_wp2_with fail
      refine hb.out.mono ?_
      rintro e w' ⟨rfl, rfl⟩
      go_wp2_with fail
      go_ret
      exact ⟨rfl, Past.refl _⟩
  · rw [decide_eq_false hs] at hb0
    have hb : Hid (Calls Try.prog 5 #[.int .i64 a0, .int .i64 a1, .int .u64 a2, .string a3, .int .i64 a4, .int .u64 a5, .string a6] w fun e w' => e = .returned (.bool false) ∧ w' = w) := hb0
    clear hb0 h3 h6
    go_enter Try.func3, Try.ntmps3
    go_wp2_with fail
    refine hb.out.mono ?_
    rintro e w' ⟨rfl, rfl⟩
    go_wp2_with fail
    go_ret
    exact ⟨rfl, Past.refl _⟩

end Go.Proofs.Qxb6616038a
