/-
  maps.Keys OVER THE MAP OF PAIRS, ITS ITERATOR, slices.AppendSeq, slices.Collect: turned to this program out of the kit's texts at string keys (Test/GgCollectAtTheDump.lean).
-/
import Derived.Test.Qxb6614904aKeys
import Derived.RangeFuncGives
import Derived.RangeFuncSeq
import Derived.Sort.MapsRangeIn
import Derived.Sort.KeysCollected
import Derived.Maps.AppendAt
import Derived.Shelf.Abstract
import Derived.Shelf.SlIterI.Collect
import Derived.WalkKit
import Derived.OwnWalkIn
import Derived.TacticsInMore
import Derived.RegionIn
import Derived.LoopNIn
import Derived.LoopIn
import Derived.WalkSmall
namespace Go.Proofs.Qxb6614904a
open Go.RowKit Go.Maps Go.Sort Go.Shelf

set_option maxRecDepth 100000 in
set_option maxHeartbeats 1000000 in
theorem keys1N_in (F : Fence) (n : Nat) (h42 : F.fn 42) (hro : F.round = none) (hn : 1 ≤ n) (l Bm b nn : Nat) (D0 : DataW Unit) (J : List (Int × Int) → World → Prop)
    (hY : ∀ pre x W, okP x → J pre W → pre.length < Maps.size D0 → YieldAt F (n - 1) Try.prog l #[encP x] W fun e W' => e = .returned (.bool true) ∧ J (pre ++ [x]) W' ∧ KeepsWalks W W')
    (W : World) (hJ : AbidesFrom W.heap.size J) (hm : W.cell? ⟨Bm, 0, none⟩ = some (.map (some b))) (hown : W.ownsMap Try.prog 70 R0 b nn D0) (h0 : J [] W) :
    CallsIn F n Try.prog 42 #[.func (.yield l) #[] #[], .pointer (some ⟨Bm, 0, none⟩)] W fun e W' => (∃ v, e = .returned v) ∧ ∃ ss : List (Int × Int), CollectedP D0 (fun _ => false) ss ∧ J ss W' := by
  refine callsIn_of_wp Try.func42 rfl h42 ?_ hro
  simp only [Try.ntmps42, List.size_toArray, List.length_cons, List.length_nil, Nat.reduceAdd, Nat.reduceSub, Array.replicate_succ, Array.replicate_zero, List.push_toArray, List.append_toArray, List.nil_append, List.cons_append]
  gi_wp2_with (first
    | (gi_at_range; refine wpListIn_range_own _ rfl _ 46 rfl 70 64 keyed70 Try.underlying46 _ b nn _ rfl hown ?_; intro w0 hrg0 hg0 hs0)
    | gi_in)
  go_frame
  gi_loopw [3] (fun _ wr => ∃ (left : Lit → Bool) (cnt : Nat) (ss : List (Int × Int)), wr.ranges Try.prog 70 R0 b W.heap.size nn D0 left cnt ∧ ss.length + cnt ≤ Maps.size D0 ∧ CollectedP D0 left ss ∧ J ss wr)
    (fun _ wr => wr.rangeLeft b W.heap.size)
  case atStart =>
    exact ⟨_, _, [], hrg0, by simp, CollectedP.start D0, hJ [] W w0 none h0 hg0 (fun r e => by cases e)⟩
  case round =>
    obtain ⟨left, cnt, ss, hrg, hcs, hC, hJs⟩ := hrel
    gi_wp2_with (first
      | (gi_at_next; refine wpListIn_next_ranges _ rfl _ rfl 70 keyed70 R0 encP id (fun key kl hk => by obtain ⟨x, hx, _⟩ := keyOf_inv hk; exact ⟨x, hx⟩) (fun v y hv => ⟨v, rfl⟩) b W.heap.size nn _ _ _ rfl hrg ?_ ?_)
      | gi_in)
    · -- NOTHING IS LEFT
      intro hc0 hl0
      gi_wp2
      go_end0
      obtain rfl : left = fun _ => false := funext hl0
      exact ⟨⟨_, rfl⟩, ss, hC, hJs⟩
    · -- AN ENTRY HAS COME: yield(k)
      intro x1 x2 c kl yd yp w2 cnt2 hkey hlk hv hat hrg2 hlt hg2 hs2 hen
      obtain ⟨x', ex, rfl, hx⟩ := keyOf_inv hkey
      obtain rfl : (x1, x2) = x' := encP_inj ex
      have hJ2 : J ss w2 := hJ ss wr w2 (some W.heap.size) hJs hg2 (fun r e => by cases e; exact ⟨Nat.le_refl _, hrg.iter_walk⟩)
      have hJ3 : J ss (w2.alloc (.cells #[.int .i64 x1, .int .u64 x2] 70)) := hJ ss w2 _ none hJ2 (World.grownBy_alloc w2 _ none) (fun r e => by cases e)
      have hrg3 := hrg2.of_walks (KeepsWalks.alloc w2 (.cells #[.int .i64 x1, .int .u64 x2] 70))
      obtain ⟨fn, tmps, assign, body, hy, hR⟩ := hY ss (x1, x2) _ hx hJ3 (by omega)
      have hC2 := hC.step hx hlk hat
      clear hs2 hkey ex hrg2 hJ2
      simp only [encP] at hen hy ⊢
      gi_wp2
      refine hR.mono ?_
      rintro e W3 ⟨rfl, hJ4, hk4⟩
      gi_wp2
      have hrg4 := hrg3.of_walks hk4
      go_roundw
      case rel => exact ⟨_, cnt2, ss ++ [(x1, x2)], hrg4, by simp; omega, hC2, hJ4⟩
      case measure => rw [hrg4.left_eq, hrg.left_eq]; exact hlt

/-- maps.Keys(m) HANDS BACK AN ITERATOR OVER m's KEYS. -/
theorem keys_gives (F : Fence) (n : Nat) (h42 : F.fn 42) (hro : F.round = none) (hn : 1 ≤ n) (Bm b nn : Nat) (D0 : DataW Unit) (w : World) (hBm : Bm < w.heap.size)
    (hm : w.cell? ⟨Bm, 0, none⟩ = some (.map (some b))) (hown : w.ownsMap Try.prog 70 R0 b nn D0) :
    SeqGives F n Try.prog 42 #[.pointer (some ⟨Bm, 0, none⟩)] encP (CollectedP D0 (fun _ => false)) (Maps.size D0) w := fun l J W hW hJ hY h0 => by
  have hown' : W.ownsMap Try.prog 70 R0 b nn D0 := by
    have hbl := hown.lt
    obtain ⟨es, clock, hb, Ft, hs, hD⟩ := hown
    exact ⟨es, clock, (hW.block b hbl).trans hb, Ft, hs, hD⟩
  exact keys1N_in F n h42 hro hn l Bm b nn D0 J (fun pre x W1 _ => hY pre x W1) W hJ ((hW.cell (p := ⟨Bm, 0, none⟩) hBm).trans hm) hown' h0

set_option maxHeartbeats 1000000 in
theorem keys_in (F : Fence) (n : Nat) (h28 : F.fn 28) (hro : F.round = none) (mb : Option Nat) (w : World) :
    CallsIn F n Try.prog 28 #[.map mb] w fun e w' => e = .returned (.func (.func 42) #[] #[.pointer (some ⟨w.heap.size, 0, none⟩)]) ∧ w' = w.alloc (.cells #[.map mb] 46) := by
  refine callsIn_of_wp Try.func28 rfl h28 ?_ hro
  simp only [Try.ntmps28, List.size_toArray, List.length_cons, List.length_nil, Nat.reduceAdd, Nat.reduceSub, Array.replicate_succ, Array.replicate_zero, List.push_toArray, List.append_toArray, List.nil_append, List.cons_append]
  gi_wp2
  go_ret
  exact ⟨rfl, rfl⟩

/-- The cells of a list of pairs. -/
def flatP (ss : List (Int × Int)) : List Value := ss.flatMap fun x => [.int .i64 x.1, .int .u64 x.2]
theorem flatP_snoc (ss : List (Int × Int)) (x : Int × Int) : flatP (ss ++ [x]) = flatP ss ++ [.int .i64 x.1, .int .u64 x.2] := by simp [flatP]
theorem flatP_length (ss : List (Int × Int)) : (flatP ss).length = ss.length * 2 := by
  induction ss with
  | nil => rfl
  | cons x r ih =>
    have : flatP (x :: r) = .int .i64 x.1 :: .int .u64 x.2 :: flatP r := rfl
    simp [this, ih]; omega

def sndSeq : Code → Code | .seq _ b => b | c => c
def fstSeq : Code → Code | .seq a _ => a | c => c
def unBlock : Code → Code | .block _ c => c | c => c
def unLoop : Code → Code | .loop c => c | c => c
def rfAssign : Code → Code | .rangeFunc _ _ a _ => a | c => c
def rfBody : Code → Code | .rangeFunc _ _ _ b => b | c => c
/-- A and B are the two codes of AppendSeq's range over a function, taken out of the loaded function. -/
structure IsAp (A B : Code) : Prop where
  a : A = rfAssign (unBlock (sndSeq (fstSeq (sndSeq (Try.f64.body.getD .skip)))))
  b : B = rfBody (unBlock (sndSeq (fstSeq (sndSeq (Try.f64.body.getD .skip)))))
/-- The loop's record: AppendSeq's temporaries as they stood at the entering. -/
def apRec (A B : Code) (fn : FuncId) (sv : Value) (Bs D : Nat) (st : LoopState) (pend : Option Code) : Loop :=
  { state := st, pending := pend, fn, tmps := #[.slice none 0 0, sv, .pointer (some ⟨Bs, 0, none⟩), undef, .slice none 0 0, undef, sv, undef, undef, undef, undef, undef, undef], params := #[7], assign := A, body := B, defers := D }

/-- BETWEEN TWO ROUNDS. -/
structure ApAt (A B : Code) (w0 : World) (fn : FuncId) (sv : Value) (Bs l D : Nat) (ss : List (Int × Int)) (W : World) : Prop where
  box : ∃ v, W.heap[Bs]? = some (.cells #[v] 35 (0, 0)) ∧ W.ownsRow w0.heap.size 70 2 v ss.length (flatP ss) ∧ (v = .slice none 0 0 ↔ ss = [])
  L : W.heap[l]? = some (.loop (apRec A B fn sv Bs D .ready none))
  K : W.heap[D]? = some (.deferred (some []))
  below : Below w0.heap.size w0 W

theorem ap_abides (A B : Code) (w0 : World) (fn : FuncId) (sv : Value) (Bs l D B0 : Nat) (hB : w0.heap.size ≤ B0) : AbidesFrom B0 (ApAt A B w0 fn sv Bs l D) := fun s W W' row h hg hrow => by
  have hrow' : ∀ r, row = some r → ∃ o : Obj, W.heap[r]? = some o ∧ o.isWalk = true := fun r e => (hrow r e).2
  obtain ⟨v, hv, hr, hn⟩ := h.box
  exact ⟨⟨v, (grownBy_keeps hg hrow' hv rfl).trans hv, ownsRow_abides_a hr hg hrow', hn⟩, (grownBy_keeps hg hrow' h.L rfl).trans h.L, (grownBy_keeps hg hrow' h.K rfl).trans h.K,
    h.below.grown hg h.below.size (fun k e => Nat.le_trans hB (hrow k e).1)⟩

theorem info70 : (Try.prog.info? 70).map (fun i => (i.zero, i.size, i.bytes)) = some (some (.agg #[.int .i64 0, .int .u64 0]), 2, 16) := by kernel_rfl

set_option maxRecDepth 100000 in
set_option maxHeartbeats 2000000 in
theorem apYield (A B : Code) (hAB : IsAp A B) (F : Fence) (m : Nat) (w0 : World) (fn : FuncId) (hfn : F.fn fn) (sv : Value) (Bs l D : Nat) (hBl : Bs ≠ l) (hDl : D ≠ l) (hDB : D ≠ Bs) (h0B : w0.heap.size ≤ Bs) (h0l : w0.heap.size ≤ l)
    (N : Nat) (hN : N ≤ maxLen) (hNb : N * 16 ≤ 140737488355328) (ss : List (Int × Int)) (x : Int × Int) (W : World) (h : ApAt A B w0 fn sv Bs l D ss W) (hlen : ss.length < N) :
    YieldAt F m Try.prog l #[encP x] W fun e W' => e = .returned (.bool true) ∧ ApAt A B w0 fn sv Bs l D (ss ++ [x]) W' ∧ KeepsWalks W W' := by
  obtain ⟨x1, x2⟩ := x
  obtain ⟨i0, hi, hz0, hz1, hz2⟩ := info_parts info70
  refine ⟨fn, #[.slice none 0 0, sv, .pointer (some ⟨Bs, 0, none⟩), undef, .slice none 0 0, undef, sv, encP (x1, x2), undef, undef, undef, undef, undef], rfAssign (unBlock (sndSeq (fstSeq (sndSeq (Try.f64.body.getD .skip))))), rfBody (unBlock (sndSeq (fstSeq (sndSeq (Try.f64.body.getD .skip))))), by rw [← hAB.a, ← hAB.b]; simpa [apRec] using run_yield (P := Try.prog) (args := #[encP (x1, x2)]) h.L rfl, roundIn_of_wpIn hfn ?_⟩
  obtain ⟨Wa, hWa⟩ : ∃ Wa, W.alloc (.cells #[.int .i64 x1, .int .u64 x2] 70) = Wa := ⟨_, rfl⟩
  have hka : KeepsWalks W Wa := by rw [← hWa]; exact KeepsWalks.alloc _ _
  have hA : ApAt A B w0 fn sv Bs l D ss Wa := by rw [← hWa]; exact ap_abides A B w0 fn sv Bs l D w0.heap.size (Nat.le_refl _) ss W _ none h (World.grownBy_alloc W _ none) (fun r e => by cases e)
  have hlW : l < W.heap.size := (Array.getElem?_eq_some_iff.1 h.L).1
  have hpa : Wa.heap[W.heap.size]? = some (.cells #[.int .i64 x1, .int .u64 x2] 70 (0, 0)) := by rw [← hWa]; exact World.alloc_heap_new W _
  obtain ⟨v, hv, hrow, _⟩ := hA.box
  have hl : l < Wa.heap.size := (Array.getElem?_eq_some_iff.1 hA.L).1
  have hbr := run_beginRound (P := Try.prog) hA.L rfl
  obtain ⟨W2, hW2⟩ : ∃ W2, Wa.putObj l (.loop { apRec A B fn sv Bs D .ready none with state := .busy }) = W2 := ⟨_, rfl⟩
  rw [hW2] at hbr
  have hg2 : Wa.grownBy W2 (some l) := by rw [← hW2]; exact grownBy_putObj_a _ _ _
  have hk2 : KeepsWalks W W2 := hka.trans (by rw [← hW2]; exact KeepsWalks.putObj _ hA.L rfl)
  have hv2 : W2.heap[Bs]? = some (.cells #[v] 35 (0, 0)) := by rw [← hW2]; exact (World.putObj_heap_other hBl).trans hv
  have hp2 : W2.heap[W.heap.size]? = some (.cells #[.int .i64 x1, .int .u64 x2] 70 (0, 0)) := by rw [← hW2]; exact (World.putObj_heap_other (by omega)).trans hpa
  have hK2 : W2.heap[D]? = some (.deferred (some [])) := by rw [← hW2]; exact (World.putObj_heap_other hDl).trans hA.K
  have hL2 : W2.heap[l]? = some (.loop { apRec A B fn sv Bs D .ready none with state := .busy }) := by rw [← hW2]; exact World.putObj_heap_same hl
  have hrow2 : W2.ownsRow w0.heap.size 70 2 v ss.length (flatP ss) := hrow.kept hg2 (ownsRow_ne_a hrow hA.L (fun cur e => by cases e))
  have hb2 : Below w0.heap.size w0 W2 := hA.below.grown hg2 hA.below.size (fun k e => by cases e; exact h0l)
  obtain ⟨hc2, hf2⟩ := cell_of_box_a hv2
  have hp0 : W2.cell? ⟨W.heap.size, 0, none⟩ = some (.int .i64 x1) := by simp [World.cell?, hp2]
  have hp1 : W2.cell? ⟨W.heap.size, 1, none⟩ = some (.int .u64 x2) := by simp [World.cell?, hp2]
  have hBlt : Bs < W2.heap.size := (Array.getElem?_eq_some_iff.1 hv2).1
  have hl2 : l < W2.heap.size := (Array.getElem?_eq_some_iff.1 hL2).1
  have hDlt : D < W2.heap.size := (Array.getElem?_eq_some_iff.1 hK2).1
  have ne_of : ∀ {j : Nat} {o : Obj}, W2.heap[j]? = some o → (∀ cur, o ≠ .cells cur 70 (0, 0)) → some j ≠ v.ownBlock := fun hj hno => by
    rcases ownsRow_ne_a hrow2 hj hno with e | e
    · rw [e]; simp
    · exact fun e' => e e'.symm
  clear hW2
  obtain ⟨C, hC⟩ : ∃ C, rfBody (unBlock (sndSeq (fstSeq (sndSeq (Try.f64.body.getD .skip))))) = C := ⟨_, rfl⟩
  rw [hC]
  have HC : Hid (rfBody (unBlock (sndSeq (fstSeq (sndSeq (Try.f64.body.getD .skip))))) = C) := hC
  clear hC
  simp only [encP, Try.f64, Option.getD_some, sndSeq, fstSeq, unBlock, rfAssign]
  gi_wp2_with gi_round_op_a
  clear hWa hp2 hpa hbr
  rw [← HC.out]
  simp only [Try.f64, Option.getD_some, sndSeq, fstSeq, unBlock, rfBody]
  gi_wp2_with (first
    | (gi_at_builtin; refine wpListIn_append_own _ rfl _ _ 35 rfl w0.heap.size 70 i0 (.agg #[.int .i64 0, .int .u64 0]) 2 16 Try.underlying35 hi hz0 hz1 hz2 rfl (by decide) _ _ _ rfl (hrow2.alloc _) ⟨W2.heap.size, 0, none⟩ 1 1 [.int .i64 x1, .int .u64 x2] rfl rfl (cell_two_new _ _ _ _) (by simp [Value.oneCell']) (by omega) (by omega) (by have := hb2.size; simp; omega) ?_; intro v' w3 hown' hg3 hnil3
       have hv3 : w3.heap[Bs]? = some (.cells #[v] 35 (0, 0)) := (hg3.block Bs (by simp; omega) (ne_of hv2 (fun cur e => by cases e))).trans ((Below.heap_alloc _ _ Bs hBlt).trans hv2)
       obtain ⟨hc3, hf3⟩ := cell_of_box_a hv3
       obtain ⟨g', cap', cur', rfl, hbase', hgb', hr1, hr2, hr3, hr4⟩ : ∃ g' cap' cur', v' = .slice (some ⟨g', 0, none⟩) (ss.length + 1) cap' ∧ w0.heap.size ≤ g' ∧ w3.heap[g']? = some (.cells cur' 70 (0, 0)) ∧ ss.length + 1 ≤ cap' ∧ cap' ≤ maxLen ∧ cur'.size = cap' * 2 ∧ cur'.toList.take ((ss.length + 1) * 2) = flatP ss ++ [.int .i64 x1, .int .u64 x2] := by
         rcases hown'.2 with ⟨_, h0⟩ | h'
         · exact absurd h0 (by omega)
         · exact h'
       go_frame)
    | gi_round_op_a)
  have hg3' : (W2.alloc (.cells #[.int .i64 x1, .int .u64 x2] 70)).grownBy w3 v.ownBlock := hg3
  have hL3 : w3.heap[l]? = some (.loop { apRec A B fn sv Bs D .ready none with state := .busy }) := (hg3'.block l (by simp; omega) (ne_of hL2 (fun cur e => by cases e))).trans ((Below.heap_alloc _ _ l hl2).trans hL2)
  have hK3 : w3.heap[D]? = some (.deferred (some [])) := (hg3'.block D (by simp; omega) (ne_of hK2 (fun cur e => by cases e))).trans ((Below.heap_alloc _ _ D hDlt).trans hK2)
  obtain ⟨w4, hw4⟩ : ∃ w4, w3.setCell ⟨Bs, 0, none⟩ (.slice (some ⟨g', 0, none⟩) (ss.length + 1) cap') = w4 := ⟨_, rfl⟩
  rw [hw4]
  have hg4 : w3.grownBy w4 (some Bs) := by rw [← hw4]; exact grownBy_setCell0_a _ _ _
  have hv4 : w4.heap[Bs]? = some (.cells #[.slice (some ⟨g', 0, none⟩) (ss.length + 1) cap'] 35 (0, 0)) := by rw [← hw4]; exact heap_setCell_box_a _ hv3
  have hL4 : w4.heap[l]? = some (.loop { apRec A B fn sv Bs D .ready none with state := .busy }) := (hg4.block l (Array.getElem?_eq_some_iff.1 hL3).1 (fun e => hBl (by cases e; rfl))).trans hL3
  have hK4 : w4.heap[D]? = some (.deferred (some [])) := (hg4.block D (Array.getElem?_eq_some_iff.1 hK3).1 (fun e => hDB (by cases e; rfl))).trans hK3
  have hrow4 := hown'.kept hg4 (ownsRow_ne_a hown' hv3 (fun cur e => by cases e))
  have hl4 : l < w4.heap.size := (Array.getElem?_eq_some_iff.1 hL4).1
  have hb3 : Below w0.heap.size w0 w3 := (hb2.alloc hb2.size _).grown hg3' (by have := hb2.size; simp; omega) (fun k e => (hrow2.lt k e).1)
  have hb4 : Below w0.heap.size w0 w4 := hb3.grown hg4 hb3.size (fun k e => by cases e; exact h0B)
  have hk4 : KeepsWalks W w4 := ((hk2.trans (KeepsWalks.alloc _ _)).trans (KeepsWalks.of_grownBy hg3' (ownsRow_not_walk_a (hrow2.alloc _)))).trans (by rw [← hw4]; exact KeepsWalks.setCell _ _ _)
  clear hw4
  refine ⟨_, _, run_endRound none hL4, rfl, ⟨⟨_, (World.putObj_heap_other hBl).trans hv4, ?_, by simp⟩, World.putObj_heap_same hl4, (World.putObj_heap_other hDl).trans hK4, hb4.grown (grownBy_putObj_a _ _ _) hb4.size (fun k e => by cases e; exact h0l)⟩, hk4.trans (KeepsWalks.putObj _ hL4 rfl)⟩
  have := hrow4.kept (grownBy_putObj_a w4 l (.loop { { apRec A B fn sv Bs D .ready none with state := .busy } with state := if (none : Option Code).isNone then .ready else .done, pending := none })) (ownsRow_ne_a hrow4 hL4 (fun cur e => by cases e))
  simpa [flatP_snoc] using this

set_option maxRecDepth 100000 in
set_option maxHeartbeats 2000000 in
theorem appendSeq_in (F : Fence) (n : Nat) (h64 : F.fn 64) (hro : F.round = none) (hn : 2 ≤ n) (g : Nat) (lb : Array Value) (hFg : F.fn g) (eg : ∀ args w, (callFunc g args).run Try.prog w = .ok (.enter g args) w)
    (S : List (Int × Int) → Prop) (N : Nat) (hN : N ≤ maxLen) (hNb : N * 16 ≤ 140737488355328) (w : World) (hseq : SeqGives F (n - 1) Try.prog g lb encP S N w) :
    CallsIn F n Try.prog 64 #[.slice none 0 0, .func (.func g) #[] lb] w fun e w' => ∃ (v : Value) (ss : List (Int × Int)), e = .returned v ∧ S ss ∧ w'.ownsRow w.heap.size 70 2 v ss.length (flatP ss) ∧ (v = .slice none 0 0 ↔ ss = []) ∧ Below w.heap.size w w' := by
  have h1 : 1 ≤ n := by omega
  refine callsIn_of_wp_marks Try.func64 rfl h64 ?_ hro
  simp only [Try.ntmps64, List.size_toArray, List.length_cons, List.length_nil, Nat.reduceAdd, Nat.reduceSub, Array.replicate_succ, Array.replicate_zero, List.push_toArray, List.append_toArray, List.nil_append, List.cons_append]
  gi_wp2
  obtain ⟨A, hA⟩ : ∃ A, A = rfAssign (unBlock (sndSeq (fstSeq (sndSeq (Try.f64.body.getD .skip))))) := ⟨_, rfl⟩
  obtain ⟨B, hB⟩ : ∃ B, B = rfBody (unBlock (sndSeq (fstSeq (sndSeq (Try.f64.body.getD .skip))))) := ⟨_, rfl⟩
  have hAB : IsAp A B := ⟨hA, hB⟩
  refine wpIn_rangeFunc ?_
  intro fn hfn
  rw [hro]
  obtain ⟨W0, hW0⟩ : ∃ W0, w.alloc (.cells #[.slice none 0 0] 35) = W0 := ⟨_, rfl⟩
  have hs0 : W0.heap.size = w.heap.size + 1 := by rw [← hW0]; simp
  have hv0 : W0.heap[w.heap.size]? = some (.cells #[.slice none 0 0] 35 (0, 0)) := by rw [← hW0]; exact World.alloc_heap_new w _
  have hb0 : Below w.heap.size w W0 := by rw [← hW0]; exact (Below.refl _ w).alloc (Nat.le_refl _) _
  rw [hW0]
  obtain ⟨W1, hW1⟩ : ∃ W1, (W0.alloc (.deferred (some []))).alloc (.loop (apRec A B fn (.func (.func g) #[] lb) w.heap.size W0.heap.size .ready none)) = W1 := ⟨_, rfl⟩
  have hold : ∀ k, k < W0.heap.size → W1.heap[k]? = W0.heap[k]? := fun k hk => by
    rw [← hW1]; exact (Below.heap_alloc _ _ k (by simp; omega)).trans (Below.heap_alloc _ _ k hk)
  have hb1 : Below w.heap.size w W1 := by rw [← hW1]; exact (hb0.alloc hb0.size _).alloc (by have := hb0.size; simp; omega) _
  have hs1 : W1.heap.size = W0.heap.size + 2 := by rw [← hW1]; simp
  have hM : ApAt A B w fn (.func (.func g) #[] lb) w.heap.size (W0.heap.size + 1) W0.heap.size [] W1 :=
    ⟨⟨_, (hold w.heap.size (by omega)).trans hv0, ⟨rfl, .inl ⟨rfl, rfl⟩⟩, by simp⟩,
     by rw [← hW1]; have := World.alloc_heap_new (W0.alloc (.deferred (some []))) (.loop (apRec A B fn (.func (.func g) #[] lb) w.heap.size W0.heap.size .ready none)); rwa [World.size_alloc] at this,
     by rw [← hW1]; exact (Below.heap_alloc _ _ _ (by simp)).trans (World.alloc_heap_new W0 _), hb1⟩
  refine ⟨W0.heap.size + 1, [{ target := .collected W0.heap.size, args := #[] }], W1, { target := .fn (.func g) lb, args := #[.func (.yield (W0.heap.size + 1)) #[] #[]] }, W1, g,
    #[.func (.yield (W0.heap.size + 1)) #[] #[]] ++ lb, W1, ?_, ?_, ?_, ?_, fun _ => h1, ?_⟩
  · rw [← hW1, hA, hB]; exact run_enterLoop_outer _ _ _ _ _
  · simp [resolve, go_sem]
  · intro f' hf'; simp [Target.leads] at hf'; subst hf'; exact hFg
  · simp [invoke, go_sem, eg]
  · refine (hseq (W0.heap.size + 1) (ApAt A B w fn (.func (.func g) #[] lb) w.heap.size (W0.heap.size + 1) W0.heap.size) W1 hb1 (ap_abides A B _ _ _ _ _ _ _ hb1.size)
      (fun pre x W hJ hl => apYield A B hAB F (n - 1 - 1) w fn hfn _ w.heap.size (W0.heap.size + 1) W0.heap.size (by omega) (by omega) (by omega) (Nat.le_refl _) (by omega) N hN hNb pre x W hJ hl) hM).mono ?_
    rintro e W2 ⟨⟨v0, rfl⟩, ss, hS, h2⟩
    obtain ⟨v, hv, hrow, hnil⟩ := h2.box
    have hend := run_endLoop (P := Try.prog) h2.L (by simp [apRec])
    obtain ⟨W3, hW3⟩ : ∃ W3, W2.putObj (W0.heap.size + 1) (.loop { apRec A B fn (.func (.func g) #[] lb) w.heap.size W0.heap.size .ready none with state := .exhausted }) = W3 := ⟨_, rfl⟩
    rw [hW3] at hend
    have hg3 : W2.grownBy W3 (some (W0.heap.size + 1)) := by rw [← hW3]; exact grownBy_putObj_a _ _ _
    have hv3 : W3.heap[w.heap.size]? = some (.cells #[v] 35 (0, 0)) := by rw [← hW3]; exact (World.putObj_heap_other (by omega)).trans hv
    have hK3 : W3.heap[W0.heap.size]? = some (.deferred (some [])) := by rw [← hW3]; exact (World.putObj_heap_other (by omega)).trans h2.K
    have hrow3 := hrow.kept hg3 (ownsRow_ne_a hrow h2.L (fun cur e => by cases e))
    have hb3 : Below w.heap.size w W3 := h2.below.grown hg3 h2.below.size (fun k e => by cases e; omega)
    obtain ⟨hc3, hf3⟩ := cell_of_box_a hv3
    clear hW3
    refine ⟨none, W3, hend, ?_⟩
    gi_wp2
    rw [← hs0]
    refine ⟨by simp, .inl ⟨_, _, rfl, run_takeDeferred hK3, ?_⟩⟩
    exact ⟨_, results_tmp rfl _ _ _, v, ss, rfl, hS, hrow3.kept (grownBy_putObj_a _ _ _) (ownsRow_ne_a hrow3 hK3 (fun cur e => by cases e)), hnil, hb3.grown (grownBy_putObj_a _ _ _) hb3.size (fun k e => by cases e; omega)⟩

set_option maxHeartbeats 1000000 in
theorem collect_in (F : Fence) (n : Nat) (h40 : F.fn 40) (h64 : F.fn 64) (hro : F.round = none) (hn : 3 ≤ n) (g : Nat) (lb : Array Value) (hFg : F.fn g) (eg : ∀ args w, (callFunc g args).run Try.prog w = .ok (.enter g args) w)
    (S : List (Int × Int) → Prop) (N : Nat) (hN : N ≤ maxLen) (hNb : N * 16 ≤ 140737488355328) (w : World) (hseq : SeqGives F (n - 1 - 1) Try.prog g lb encP S N w) :
    CallsIn F n Try.prog 40 #[.func (.func g) #[] lb] w fun e w' => ∃ (v : Value) (ss : List (Int × Int)), e = .returned v ∧ S ss ∧ w'.ownsRow w.heap.size 70 2 v ss.length (flatP ss) ∧ (v = .slice none 0 0 ↔ ss = []) ∧ Below w.heap.size w w' := by
  have h1 : 1 ≤ n := by omega
  refine callsIn_of_wp Try.func40 rfl h40 ?_ hro
  simp only [Try.ntmps40, List.size_toArray, List.length_cons, List.length_nil, Nat.reduceAdd, Nat.reduceSub, Array.replicate_succ, Array.replicate_zero, List.push_toArray, List.append_toArray, List.nil_append, List.cons_append]
  gi_wp2
  refine (appendSeq_in F (n - 1) h64 hro (by omega) g lb hFg eg S N hN hNb _ hseq).mono ?_
  rintro e w' ⟨v, ss, rfl, hS, hrow, hnil, hb⟩
  gi_wp2
  go_ret
  exact ⟨v, ss, rfl, hS, hrow, hnil, hb⟩
end Go.Proofs.Qxb6614904a
