/-
  THE WALK OF FnBallotUnmovedByBallotlessParts: the ways through each 'if' meet again at one relation, 'St'.
-/
import Derived.Test.Qxb6616038aBallot
import Derived.Deep.DeepCutAuto
import Derived.Deep.CutBlock
namespace Go.Proofs.Qxb6616038a
open Go.RowKit

/-- Behind the switch: the block of 'bare' holds the pointers r; they lead to the ballot. -/
structure S1 (a0 a1 : Int) (w0 W : World) (b : Int) (ok : Bool) (r : Nat → Option Addr) : Prop where
  grown : Grown w0 W
  size : w0.heap.size < W.heap.size
  bare : ∀ i, i < 16 → W.cell? ⟨w0.heap.size, i, none⟩ = some (.pointer (r i))
  bal : Bal W b ok [r 1, r 2, r 3, r 7, r 8, r 9]
  low : ∀ k, some (⟨k, 0, none⟩ : Addr) ∈ [r 1, r 2, r 3, r 7, r 8, r 9] → k < W.heap.size
  ans : (a0 < 6 ∧ b = a1 ∧ ok = true) ∨ (6 ≤ a0 ∧ b = 0 ∧ ok = false)

/-- Behind 'full := bare' and behind every 'if': block f holds the same six ballot-bearing pointers. -/
structure St (a0 a1 : Int) (w0 W : World) (b : Int) (ok : Bool) (r : Nat → Option Addr) (f : Nat) : Prop where
  s1 : S1 a0 a1 w0 W b ok r
  f1 : w0.heap.size < f
  f2 : f < W.heap.size
  far : ∀ k, some (⟨k, 0, none⟩ : Addr) ∈ [r 1, r 2, r 3, r 7, r 8, r 9] → k ≠ f
  full : ∃ q : Nat → Option Addr, (q 1 = r 1 ∧ q 2 = r 2 ∧ q 3 = r 3 ∧ q 7 = r 7 ∧ q 8 = r 8 ∧ q 9 = r 9) ∧ ∀ i, i < 16 → W.cell? ⟨f, i, none⟩ = some (.pointer (q i))

theorem frozen_new {w0 W : World} (h : Grown w0 W) {k o : Nat} (hk : w0.heap.size ≤ k) : W.frozen? ⟨k, o, none⟩ = false := by
  rw [h.2.1]
  have : w0.heap[k]? = none := by simp [hk]
  simp [World.frozen?, this]

theorem St.put {a0 a1 : Int} {w0 W : World} {b : Int} {ok : Bool} {r : Nat → Option Addr} {f : Nat} (h : St a0 a1 w0 W b ok r f) (i : Nat) (hi : i < 16)
    (hne : i ≠ 1 ∧ i ≠ 2 ∧ i ≠ 3 ∧ i ≠ 7 ∧ i ≠ 8 ∧ i ≠ 9) (c : Array Value) (t : TypeId) (x : Option Addr) :
    St a0 a1 w0 ((W.alloc (.cells c t)).setCell ⟨f, i, none⟩ (.pointer x)) b ok r f := by
  obtain ⟨⟨hg, hsz, hb, hbal, hlow, hans⟩, f1, f2, far, q, hq, hfull⟩ := h
  have hg' := (hg.alloc c t).setCell (a := ⟨f, i, none⟩) (by show w0.heap.size ≤ f; omega) (.pointer x)
  have hs : ((W.alloc (.cells c t)).setCell ⟨f, i, none⟩ (.pointer x)).heap.size = W.heap.size + 1 := by simp [World.setCell]
  have old : ∀ k o, k < W.heap.size → k ≠ f → ((W.alloc (.cells c t)).setCell ⟨f, i, none⟩ (.pointer x)).cell? ⟨k, o, none⟩ = W.cell? ⟨k, o, none⟩ := by
    intro k o hk hkf
    rw [World.cell?_setCell_other _ _ _ _ (by intro e; injection e; omega), cell_alloc_old hk]
  refine ⟨⟨hg', by omega, fun j hj => ?_, ?_, fun k hk => by have := hlow k hk; omega, hans⟩, f1, by omega, far, fun j => if j = i then x else q j, ?_, fun j hj => ?_⟩
  · rw [old _ _ hsz (by omega)]; exact hb j hj
  · exact hbal.turn (fun k hm hk => old k 0 hk (far k hm)) (by omega)
  · obtain ⟨n1, n2, n3, n7, n8, n9⟩ := hne
    simp only [if_neg (Ne.symm n1), if_neg (Ne.symm n2), if_neg (Ne.symm n3), if_neg (Ne.symm n7), if_neg (Ne.symm n8), if_neg (Ne.symm n9)]
    exact hq
  · by_cases e : j = i
    · subst e
      show _ = some (Value.pointer (if j = j then x else q j))
      rw [if_pos rfl]
      exact World.cell?_setCell_same _ _ _ ((cell_alloc_old f2 _).trans (hfull j hj))
    · show _ = some (Value.pointer (if j = i then x else q j))
      rw [if_neg e, World.cell?_setCell_other _ _ _ _ (by intro e; injection e; omega), cell_alloc_old f2]
      exact hfull j hj

/-- What the walk wants of the cell that an 'if' writes. -/
theorem St.at {a0 a1 : Int} {w0 W : World} {b : Int} {ok : Bool} {r : Nat → Option Addr} {f : Nat} (h : St a0 a1 w0 W b ok r f) (i : Nat) (hi : i < 16) :
    ∃ x : Option Addr, (∀ c t, (W.alloc (.cells c t)).cell? ⟨f, i, none⟩ = some (.pointer x)) ∧ ∀ c t, (W.alloc (.cells c t)).frozen? ⟨f, i, none⟩ = false := by
  obtain ⟨⟨hg, hsz, hb, hbal, hlow, hans⟩, f1, f2, far, q, hq, hfull⟩ := h
  exact ⟨q i, fun c t => (cell_alloc_old f2 _).trans (hfull i hi), fun c t => frozen_new (hg.alloc c t) (by omega)⟩

def cells16 (r : Nat → Option Addr) : Array Value :=
  #[.pointer (r 0), .pointer (r 1), .pointer (r 2), .pointer (r 3), .pointer (r 4), .pointer (r 5), .pointer (r 6), .pointer (r 7), .pointer (r 8), .pointer (r 9), .pointer (r 10), .pointer (r 11), .pointer (r 12), .pointer (r 13), .pointer (r 14), .pointer (r 15)]

theorem cells16_at (r : Nat → Option Addr) : ∀ i, i < 16 → (cells16 r)[i]? = some (.pointer (r i))
  | 0, _ | 1, _ | 2, _ | 3, _ | 4, _ | 5, _ | 6, _ | 7, _ | 8, _ | 9, _ | 10, _ | 11, _ | 12, _ | 13, _ | 14, _ | 15, _ => rfl
  | n + 16, h => by omega

def one (k n : Nat) : Nat → Option Addr := fun i => if i = k then some ⟨n, 0, none⟩ else none

/-- The switch has laid one part, whose first cell is the ballot. -/
theorem s1_some {a0 a1 : Int} {w : World} (k : Nat) (hk : k = 1 ∨ k = 2 ∨ k = 3 ∨ k = 7 ∨ k = 8 ∨ k = 9) (c : Array Value) (t : TypeId) (hc : c[0]? = some (.int .u64 a1)) (h : a0 < 6) :
    S1 a0 a1 w ((w.alloc (.cells (cells16 (one k (w.heap.size + 1))) 48)).alloc (.cells c t)) a1 true (one k (w.heap.size + 1)) := by
  have hcell : ((w.alloc (.cells (cells16 (one k (w.heap.size + 1))) 48)).alloc (.cells c t)).cell? ⟨w.heap.size + 1, 0, none⟩ = some (.int .u64 a1) := by
    rw [World.cell?_alloc_at _ _ _ _ (by simp)]; exact hc
  refine ⟨((Grown.refl w).alloc _ _).alloc _ _, by simp; omega, fun i hi => ?_, ?_, fun j hj => ?_, Or.inl ⟨h, rfl, rfl⟩⟩
  · rw [World.cell?_alloc_past _ _ _ (by simp), World.cell?_alloc_at _ _ _ _ rfl]
    exact cells16_at _ i hi
  · have hx : ∃ k, (⟨w.heap.size + 1, 0, none⟩ : Addr) = ⟨k, 0, none⟩ ∧ k < ((w.alloc (.cells (cells16 (one k (w.heap.size + 1))) 48)).alloc (.cells c t)).heap.size ∧ True := ⟨_, rfl, by simp, trivial⟩
    have hy : (∃ j, (⟨w.heap.size + 1, 0, none⟩ : Addr) = ⟨j, 0, none⟩ ∧ j < ((w.alloc (.cells (cells16 (one k (w.heap.size + 1))) 48)).alloc (.cells c t)).heap.size ∧ ((w.alloc (.cells (cells16 (one k (w.heap.size + 1))) 48)).alloc (.cells c t)).cell? ⟨j, 0, none⟩ = some (.int .u64 a1) ∧ true = true) := ⟨_, rfl, by simp, hcell, rfl⟩
    clear hx hcell
    rcases hk with rfl | rfl | rfl | rfl | rfl | rfl <;> exact hy
  · have : ∀ i, one k (w.heap.size + 1) i = some ⟨j, 0, none⟩ → j = w.heap.size + 1 := by
      intro i e
      unfold one at e
      split at e
      · injection e with e; injection e with e; exact e.symm
      · cases e
    have e : j = w.heap.size + 1 := by
      simp only [List.mem_cons, List.not_mem_nil, or_false] at hj
      rcases hj with e | e | e | e | e | e <;> exact this _ e.symm
    subst e
    simp

theorem s1_none {a0 a1 : Int} {w : World} (h : 6 ≤ a0) : S1 a0 a1 w (w.alloc (.cells (cells16 (fun _ => none)) 48)) 0 false (fun _ => none) := by
  refine ⟨(Grown.refl w).alloc _ _, by simp, fun i hi => ?_, ⟨rfl, rfl⟩, fun k hk => by simp at hk, Or.inr ⟨h, rfl, rfl⟩⟩
  rw [World.cell?_alloc_at _ _ _ _ rfl]
  exact cells16_at _ i hi

/-- 'full := bare'. -/
theorem S1.copy {a0 a1 : Int} {w0 W : World} {b : Int} {ok : Bool} {r : Nat → Option Addr} (h : S1 a0 a1 w0 W b ok r):
    St a0 a1 w0 (W.alloc (.cells (cells16 r) 48)) b ok r W.heap.size := by
  obtain ⟨hg, hsz, hb, hbal, hlow, hans⟩ := h
  refine ⟨⟨hg.alloc _ _, by simp; omega, fun i hi => ?_, hbal.turn (fun k _ hk => cell_alloc_old hk _) (by simp), fun k hk => by have := hlow k hk; simp; omega, hans⟩, hsz, by simp, fun k hk => by have := hlow k hk; omega, r, ⟨rfl, rfl, rfl, rfl, rfl, rfl⟩, fun i hi => ?_⟩
  · rw [World.cell?_alloc_past _ _ _ hsz]; exact hb i hi
  · rw [World.cell?_alloc_at _ _ _ _ rfl]; exact cells16_at _ i hi
/-- What the walk's end wants of 'St': both calls' contracts and the cells that the two loads read. -/
theorem St.last {a0 a1 : Int} {w0 W : World} {b : Int} {ok : Bool} {r : Nat → Option Addr} {f : Nat} (h : St a0 a1 w0 W b ok r f) :
    ∃ q : Nat → Option Addr,
      (∀ i, i < 16 → W.cell? ⟨w0.heap.size, i, none⟩ = some (.pointer (r i))) ∧
      (∀ i, i < 16 → ∀ o1 o2, ((W.alloc o1).alloc o2).cell? ⟨f, i, none⟩ = some (.pointer (q i))) ∧
      Hid (Calls Try.prog 8 #[.agg #[.pointer (r 0), .pointer (r 1), .pointer (r 2), .pointer (r 3), .pointer (r 4), .pointer (r 5), .pointer (r 6), .pointer (r 7), .pointer (r 8), .pointer (r 9), .pointer (r 10), .pointer (r 11), .pointer (r 12), .pointer (r 13), .pointer (r 14), .pointer (r 15)]] W fun e w' => e = .returned (.tuple #[.int .u64 b, .bool ok]) ∧ w' = (W.alloc (.cells #[.pointer (r 0), .pointer (r 1), .pointer (r 2), .pointer (r 3), .pointer (r 4), .pointer (r 5), .pointer (r 6), .pointer (r 7), .pointer (r 8), .pointer (r 9), .pointer (r 10), .pointer (r 11), .pointer (r 12), .pointer (r 13), .pointer (r 14), .pointer (r 15)] 48)).alloc (.cells #[.pointer (r 0), .pointer (r 1), .pointer (r 2), .pointer (r 3), .pointer (r 4), .pointer (r 5), .pointer (r 6), .pointer (r 7), .pointer (r 8), .pointer (r 9), .pointer (r 10), .pointer (r 11), .pointer (r 12), .pointer (r 13), .pointer (r 14), .pointer (r 15)] 48)) ∧
      Hid (∀ o1 o2, Calls Try.prog 8 #[.agg #[.pointer (q 0), .pointer (q 1), .pointer (q 2), .pointer (q 3), .pointer (q 4), .pointer (q 5), .pointer (q 6), .pointer (q 7), .pointer (q 8), .pointer (q 9), .pointer (q 10), .pointer (q 11), .pointer (q 12), .pointer (q 13), .pointer (q 14), .pointer (q 15)]] ((W.alloc o1).alloc o2) fun e w' => e = .returned (.tuple #[.int .u64 b, .bool ok]) ∧ w' = (((W.alloc o1).alloc o2).alloc (.cells #[.pointer (q 0), .pointer (q 1), .pointer (q 2), .pointer (q 3), .pointer (q 4), .pointer (q 5), .pointer (q 6), .pointer (q 7), .pointer (q 8), .pointer (q 9), .pointer (q 10), .pointer (q 11), .pointer (q 12), .pointer (q 13), .pointer (q 14), .pointer (q 15)] 48)).alloc (.cells #[.pointer (q 0), .pointer (q 1), .pointer (q 2), .pointer (q 3), .pointer (q 4), .pointer (q 5), .pointer (q 6), .pointer (q 7), .pointer (q 8), .pointer (q 9), .pointer (q 10), .pointer (q 11), .pointer (q 12), .pointer (q 13), .pointer (q 14), .pointer (q 15)] 48)) ∧
      Grown w0 W ∧ ((a0 < 6 ∧ b = a1 ∧ ok = true) ∨ (6 ≤ a0 ∧ b = 0 ∧ ok = false)) := by
  obtain ⟨⟨hg, hsz, hb, hbal, hlow, hans⟩, f1, f2, far, q, ⟨e1, e2, e3, e7, e8, e9⟩, hfull⟩ := h
  refine ⟨q, hb, fun i hi o1 o2 => ?_, ballot8 _ _ _ _ _ _ _ _ _ _ _ _ _ _ _ _ b ok W hbal, fun o1 o2 => ballot8 _ _ _ _ _ _ _ _ _ _ _ _ _ _ _ _ b ok _ ?_, hg, hans⟩
  · rw [cell_alloc_old (by simp; omega), cell_alloc_old f2]; exact hfull i hi
  · rw [e1, e2, e3, e7, e8, e9]
    exact hbal.turn (fun k _ hk => by rw [cell_alloc_old (by simp; omega), cell_alloc_old hk]) (by simp; omega)

set_option maxHeartbeats 4000000 in
set_option maxRecDepth 100000 in
theorem ballot_law (a0 : Int) (a1 : Int) (a2 : Int) (a3 : Bool) (a4 : Bool) (a5 : Bool) (a6 : Bool) (a7 : Bool) (a8 : Bool) (a9 : Bool) (a10 : Bool) (h0 : 0 ≤ a0) (h6 : a0 ≤ 6) (w : World) :
    Calls Try.prog 4 #[.int .i64 a0, .int .u64 a1, .int .u64 a2, .bool a3, .bool a4, .bool a5, .bool a6, .bool a7, .bool a8, .bool a9, .bool a10] w fun e w' => e = .returned (.bool true) ∧ Grown w w' := by
  go_enter Try.func4, Try.ntmps4
  go_upto_block 0 with fail
  go_cut [] (fun wx => ∃ b ok r, S1 a0 a1 w wx b ok r)
  case first => as_aux_lemma =>
    obtain rfl | rfl | rfl | rfl | rfl | rfl | rfl : a0 = 0 ∨ a0 = 1 ∨ a0 = 2 ∨ a0 = 3 ∨ a0 = 4 ∨ a0 = 5 ∨ a0 = 6 := by omega
    · go_wp2
      go_meet
      exact ⟨_, _, _, s1_some 1 (by decide) _ _ rfl (by decide)⟩
    · go_wp2
      go_meet
      exact ⟨_, _, _, s1_some 2 (by decide) _ _ rfl (by decide)⟩
    · go_wp2
      go_meet
      exact ⟨_, _, _, s1_some 3 (by decide) _ _ rfl (by decide)⟩
    · go_wp2
      go_meet
      exact ⟨_, _, _, s1_some 7 (by decide) _ _ rfl (by decide)⟩
    · go_wp2
      go_meet
      exact ⟨_, _, _, s1_some 8 (by decide) _ _ rfl (by decide)⟩
    · go_wp2
      go_meet
      exact ⟨_, _, _, s1_some 9 (by decide) _ _ rfl (by decide)⟩
    · go_wp2
      go_meet
      exact ⟨_, _, _, s1_none (by decide)⟩
  case rest =>
  obtain ⟨b, ok, r, hs1⟩ := hcut
  go_upto_region 17 with fail
  go_cut [24] (fun s24 wx => ∃ f, s24 = .pointer (some ⟨f, 0, none⟩) ∧ St a0 a1 w wx b ok r f)
  case first => as_aux_lemma =>
    have hb0 : ∀ i, i < 16 → wc.cell? ⟨w.heap.size, i, none⟩ = some (.pointer (r i)) := hs1.bare
    have c0 := hb0 0 (by decide); have c1 := hb0 1 (by decide); have c2 := hb0 2 (by decide); have c3 := hb0 3 (by decide); have c4 := hb0 4 (by decide); have c5 := hb0 5 (by decide); have c6 := hb0 6 (by decide); have c7 := hb0 7 (by decide)
    have c8 := hb0 8 (by decide); have c9 := hb0 9 (by decide); have c10 := hb0 10 (by decide); have c11 := hb0 11 (by decide); have c12 := hb0 12 (by decide); have c13 := hb0 13 (by decide); have c14 := hb0 14 (by decide); have c15 := hb0 15 (by decide)
    clear hb0
    go_wp2
    go_meet
    exact ⟨_, rfl, hs1.copy⟩
  case rest =>
  obtain ⟨f, rfl, hst⟩ := hcut
  clear hs1
  go_upto_if 80 with fail
  go_cut [] (fun wx => St a0 a1 w wx b ok r f)
  case first => as_aux_lemma =>
    obtain ⟨x, hx, hz⟩ := hst.at 11 (by decide)
    cases a3
    · go_wp2
      go_meet
      exact hst
    · go_wp2
      go_meet
      exact hst.put 11 (by decide) (by decide) _ _ _
  case rest =>
  replace hst := hcut
  clear hcut
  go_upto_if 86 with fail
  go_cut [] (fun wx => St a0 a1 w wx b ok r f)
  case first => as_aux_lemma =>
    obtain ⟨x, hx, hz⟩ := hst.at 0 (by decide)
    cases a4
    · go_wp2
      go_meet
      exact hst
    · go_wp2
      go_meet
      exact hst.put 0 (by decide) (by decide) _ _ _
  case rest =>
  replace hst := hcut
  clear hcut
  go_upto_if 91 with fail
  go_cut [] (fun wx => St a0 a1 w wx b ok r f)
  case first => as_aux_lemma =>
    obtain ⟨x, hx, hz⟩ := hst.at 4 (by decide)
    cases a5
    · go_wp2
      go_meet
      exact hst
    · go_wp2
      go_meet
      exact hst.put 4 (by decide) (by decide) _ _ _
  case rest =>
  replace hst := hcut
  clear hcut
  go_upto_if 96 with fail
  go_cut [] (fun wx => St a0 a1 w wx b ok r f)
  case first => as_aux_lemma =>
    cases a6
    · go_wp2
      go_meet
      exact hst
    · go_upto_region 25 with fail
      go_cut [] (fun wx => St a0 a1 w wx b ok r f)
      case first => as_aux_lemma =>
        obtain ⟨x, hx, hz⟩ := hst.at 5 (by decide)
        go_wp2
        go_meet
        exact hst.put 5 (by decide) (by decide) _ _ _
      case rest =>
      replace hst := hcut
      clear hcut
      go_upto_region 26 with fail
      go_cut [] (fun wx => St a0 a1 w wx b ok r f)
      case first => as_aux_lemma =>
        obtain ⟨x, hx, hz⟩ := hst.at 12 (by decide)
        go_wp2
        go_meet
        exact hst.put 12 (by decide) (by decide) _ _ _
      case rest =>
      replace hst := hcut
      clear hcut
      obtain ⟨x, hx, hz⟩ := hst.at 15 (by decide)
      go_wp2
      go_meet
      exact hst.put 15 (by decide) (by decide) _ _ _
  case rest =>
  replace hst := hcut
  clear hcut
  go_upto_if 109 with fail
  go_cut [] (fun wx => St a0 a1 w wx b ok r f)
  case first => as_aux_lemma =>
    obtain ⟨x, hx, hz⟩ := hst.at 6 (by decide)
    cases a7
    · go_wp2
      go_meet
      exact hst
    · go_wp2
      go_meet
      exact hst.put 6 (by decide) (by decide) _ _ _
  case rest =>
  replace hst := hcut
  clear hcut
  go_upto_if 115 with fail
  go_cut [] (fun wx => St a0 a1 w wx b ok r f)
  case first => as_aux_lemma =>
    obtain ⟨x, hx, hz⟩ := hst.at 10 (by decide)
    cases a8
    · go_wp2
      go_meet
      exact hst
    · go_wp2
      go_meet
      exact hst.put 10 (by decide) (by decide) _ _ _
  case rest =>
  replace hst := hcut
  clear hcut
  go_upto_if 120 with fail
  go_cut [] (fun wx => St a0 a1 w wx b ok r f)
  case first => as_aux_lemma =>
    obtain ⟨x, hx, hz⟩ := hst.at 13 (by decide)
    cases a9
    · go_wp2
      go_meet
      exact hst
    · go_wp2
      go_meet
      exact hst.put 13 (by decide) (by decide) _ _ _
  case rest =>
  replace hst := hcut
  clear hcut
  go_upto_if 125 with fail
  go_cut [] (fun wx => St a0 a1 w wx b ok r f)
  case first => as_aux_lemma =>
    obtain ⟨x, hx, hz⟩ := hst.at 14 (by decide)
    cases a10
    · go_wp2
      go_meet
      exact hst
    · go_wp2
      go_meet
      exact hst.put 14 (by decide) (by decide) _ _ _
  case rest =>
  replace hst := hcut
  clear hcut
  obtain ⟨q, hb, hf, H1, H2, hg, hans⟩ := hst.last
  clear hst
  have c0 := hb 0 (by decide); have c1 := hb 1 (by decide); have c2 := hb 2 (by decide); have c3 := hb 3 (by decide); have c4 := hb 4 (by decide); have c5 := hb 5 (by decide); have c6 := hb 6 (by decide); have c7 := hb 7 (by decide)
  have c8 := hb 8 (by decide); have c9 := hb 9 (by decide); have c10 := hb 10 (by decide); have c11 := hb 11 (by decide); have c12 := hb 12 (by decide); have c13 := hb 13 (by decide); have c14 := hb 14 (by decide); have c15 := hb 15 (by decide)
  have d0 := hf 0 (by decide); have d1 := hf 1 (by decide); have d2 := hf 2 (by decide); have d3 := hf 3 (by decide); have d4 := hf 4 (by decide); have d5 := hf 5 (by decide); have d6 := hf 6 (by decide); have d7 := hf 7 (by decide)
  have d8 := hf 8 (by decide); have d9 := hf 9 (by decide); have d10 := hf 10 (by decide); have d11 := hf 11 (by decide); have d12 := hf 12 (by decide); have d13 := hf 13 (by decide); have d14 := hf 14 (by decide); have d15 := hf 15 (by decide)
  clear hb hf
  rcases hans with ⟨hk, rfl, rfl⟩ | ⟨hk, rfl, rfl⟩
  all_goals
    go_wp2_with fail
    refine H1.out.mono ?_
    rintro e w' ⟨rfl, rfl⟩
    clear H1 c0 c1 c2 c3 c4 c5 c6 c7 c8 c9 c10 c11 c12 c13 c14 c15
    go_wp2_with fail
    refine (H2.out _ _).mono ?_
    rintro e w' ⟨rfl, rfl⟩
    clear H2 d0 d1 d2 d3 d4 d5 d6 d7 d8 d9 d10 d11 d12 d13 d14 d15
    go_wp2
    go_ret
    exact ⟨by simp, (((hg.alloc _ _).alloc _ _).alloc _ _).alloc _ _⟩
end Go.Proofs.Qxb6616038a
