/-
  ZZsetGone, current, ZZcurrent.
-/
import Derived.Test.Qxb6614904aSmall
import Derived.Maps.OwnOps
namespace Go.Proofs.Qxb6614904a
open Go.RowKit Go.Maps Go.MuLone

set_option maxHeartbeats 2000000 in
theorem gone7 (b cm gm : Nat) (num : Int) (sl v0 v1 v2 v3 v4 : Value) (acc : List (Int × Int)) (x : Int × Int) (w : World) (hst : St w b cm gm num sl v0 v1 v2 v3 v4) (hm : GoneMap w gm acc) (hx : okP x) (hacc : acc.length ≤ 8192) :
    Calls Try.prog 7 #[.pointer (some ⟨b, 0, none⟩), .int .i64 x.1, .int .u64 x.2] w fun e w' => e = .returned (.tuple #[]) ∧ GoneMap w' gm (acc ++ [x]) ∧ Kept [gm] w w' := by
  obtain ⟨D, n, hown, hn, hD⟩ := hm
  have hmap := GoneMap.isMap hown
  have hkey := keyOf_mk hx
  have HD : Hid _ := hD
  have c7 := hst.c7
  clear hst hD
  obtain ⟨x1, x2⟩ := x
  have hg7 : gm < w.heap.size := hown.lt
  simp only [encP] at hkey
  go_enter Try.func7, Try.ntmps7
  go_wp2_with (at_mapUpdate; refine wpList_mapUpdate_own _ rfl _ _ _ 46 rfl 70 64 keyed70 Try.underlying46 R0 gm n D rfl (hown.alloc _) (by unfold maxLen; omega) (.agg #[.int .i64 x1, .int .u64 x2]) (.pointer (some ⟨w.heap.size, 0, none⟩)) (litP (x1, x2)) rfl rfl hkey .nil [] rfl ?_)
  intro w' hown' hg'
  go_wp2
  go_end0
  refine ⟨rfl, GoneMap.put hx hown' hmap hn HD.out, ?_⟩
  exact ((Kept.refl [gm] w).alloc _).grown hg' (fun k e => by cases e; simp)

theorem cell_other (w : World) {b i b' j : Nat} (v : Value) (h : b ≠ b' ∨ i ≠ j) : (w.setCell ⟨b, i, none⟩ v).cell? ⟨b', j, none⟩ = w.cell? ⟨b', j, none⟩ :=
  World.cell?_setCell_other _ _ _ _ (fun e => by cases e; simp at h)

theorem run_store_one (P : Program) (W : World) (a : Addr) (v : Value) (hv : v.oneCell' = true) (hc : (W.cell? a).isSome = true) (hf : W.frozen? a = false) : (store a v).run P W = .ok () (W.setCell a v) := by
  obtain ⟨u, hu⟩ := Option.isSome_iff_exists.1 hc
  rw [run_store P W a v .plain hv, hu]
  simp [hf]

set_option maxHeartbeats 2000000 in
theorem current15 (b cm gm : Nat) (num : Int) (sl v0 v1 v2 v3 v4 : Value) (w : World) (hst : St w b cm gm num sl v0 v1 v2 v3 v4) :
    Calls Try.prog 15 #[.pointer (some ⟨b, 0, none⟩)] w fun e w' => e = .returned (.agg #[v0, v1, v2, v3, v4]) ∧ St w' b cm gm num sl v0 v1 v2 v3 v4 ∧ Kept [b] w w' := by
  have HS : Hid _ := hst
  clear hst
  go_enter_defers Try.func15, Try.ntmps15
  go_wp2_with fail
  obtain ⟨W1, hW1⟩ : ∃ W1, W1 = w.alloc (.cells #[.int .u64 0, .slice none 0 0, .slice none 0 0, .slice none 0 0, .slice none 0 0] 37) := ⟨_, rfl⟩
  have hk1 : Kept [] w W1 := by rw [hW1]; exact (Kept.refl _ _).alloc _
  have hn0 : ∀ i, W1.cell? ⟨w.heap.size, i, none⟩ = (#[.int .u64 0, .slice none 0 0, .slice none 0 0, .slice none 0 0, .slice none 0 0] : Array Value)[i]? := fun i => by rw [hW1]; exact new_cell _ _ _ _
  have hnf : ∀ i, W1.frozen? ⟨w.heap.size, i, none⟩ = false := fun i => by rw [hW1]; exact new_frozen _ _ _ _
  have S1 : Hid (St W1 b cm gm num sl v0 v1 v2 v3 v4) := HS.out.kept hk1 (by simp)
  have hbn : b < w.heap.size := HS.out.lt
  rw [← hW1]
  clear hW1 HS
  refine (lock_free Try.muLib ⟨b, 9, none⟩ W1 S1.out.c9 (S1.out.fr 9)).mono ?_
  rintro e w' ⟨rfl, rfl⟩
  obtain ⟨W2, hW2⟩ : ∃ W2, W2 = W1.setCell ⟨b, 9, none⟩ (.int .i32 1) := ⟨_, rfl⟩
  have ob : ∀ i, i ≠ 9 → W2.cell? ⟨b, i, none⟩ = W1.cell? ⟨b, i, none⟩ := fun i hi => by rw [hW2]; exact cell_other _ _ (.inr (Ne.symm hi))
  have on : ∀ i, W2.cell? ⟨w.heap.size, i, none⟩ = W1.cell? ⟨w.heap.size, i, none⟩ := fun i => by rw [hW2]; exact cell_other _ _ (.inl (by omega))
  have hf2 : ∀ x, W2.frozen? x = W1.frozen? x := fun x => by rw [hW2]; simp
  have c9 : W2.cell? ⟨b, 9, none⟩ = some (.int .i32 1) := by rw [hW2]; exact World.cell?_setCell_same _ _ _ S1.out.c9
  have hk2 : Kept [b] w W2 := by rw [hW2]; exact (hk1.mono (by simp)).setCell (.inl (by simp)) _
  have d11 := (ob 11 (by omega)).trans S1.out.c11
  have d12 := (ob 12 (by omega)).trans S1.out.c12
  have d13 := (ob 13 (by omega)).trans S1.out.c13
  have d14 := (ob 14 (by omega)).trans S1.out.c14
  have d15 := (ob 15 (by omega)).trans S1.out.c15
  have n0 := (on 0).trans (hn0 0)
  have n1 := (on 1).trans (hn0 1)
  have n2 := (on 2).trans (hn0 2)
  have n3 := (on 3).trans (hn0 3)
  have n4 := (on 4).trans (hn0 4)
  have g0 := (hf2 _).trans (hnf 0)
  have g1 := (hf2 _).trans (hnf 1)
  have g2 := (hf2 _).trans (hnf 2)
  have g3 := (hf2 _).trans (hnf 3)
  have g4 := (hf2 _).trans (hnf 4)
  simp at n0 n1 n2 n3 n4
  obtain ⟨_, o0, o1, o2, o3, o4⟩ := S1.out.one
  rw [← hW2]
  have hst1 := run_store_one Try.prog
  have HO : Hid _ := ob
  have HF : Hid _ := hf2
  clear ob on hf2 hn0 hnf hW2
  go_wp2
  obtain ⟨W3, hW3⟩ : ∃ W3, W3 = ((((W2.setCell ⟨w.heap.size, 0, none⟩ v0).setCell ⟨w.heap.size, 1, none⟩ v1).setCell ⟨w.heap.size, 2, none⟩ v2).setCell ⟨w.heap.size, 3, none⟩ v3).setCell ⟨w.heap.size, 4, none⟩ v4 := ⟨_, rfl⟩
  rw [← hW3]
  have hne : w.heap.size ≠ b := by omega
  have tb : ∀ i, W3.cell? ⟨b, i, none⟩ = W2.cell? ⟨b, i, none⟩ := fun i => by
    rw [hW3, cell_other _ _ (.inl hne), cell_other _ _ (.inl hne), cell_other _ _ (.inl hne), cell_other _ _ (.inl hne), cell_other _ _ (.inl hne)]
  have e4 : W3.cell? ⟨w.heap.size, 4, none⟩ = some v4 := by
    rw [hW3]; refine World.cell?_setCell_same' _ _ _ ?_
    rw [cell_other _ _ (.inr (by omega)), cell_other _ _ (.inr (by omega)), cell_other _ _ (.inr (by omega)), cell_other _ _ (.inr (by omega)), n4]; rfl
  have e3 : W3.cell? ⟨w.heap.size, 3, none⟩ = some v3 := by
    rw [hW3, cell_other _ _ (.inr (by omega))]; refine World.cell?_setCell_same' _ _ _ ?_
    rw [cell_other _ _ (.inr (by omega)), cell_other _ _ (.inr (by omega)), cell_other _ _ (.inr (by omega)), n3]; rfl
  have e2 : W3.cell? ⟨w.heap.size, 2, none⟩ = some v2 := by
    rw [hW3, cell_other _ _ (.inr (by omega)), cell_other _ _ (.inr (by omega))]; refine World.cell?_setCell_same' _ _ _ ?_
    rw [cell_other _ _ (.inr (by omega)), cell_other _ _ (.inr (by omega)), n2]; rfl
  have e1 : W3.cell? ⟨w.heap.size, 1, none⟩ = some v1 := by
    rw [hW3, cell_other _ _ (.inr (by omega)), cell_other _ _ (.inr (by omega)), cell_other _ _ (.inr (by omega))]; refine World.cell?_setCell_same' _ _ _ ?_
    rw [cell_other _ _ (.inr (by omega)), n1]; rfl
  have e0 : W3.cell? ⟨w.heap.size, 0, none⟩ = some v0 := by
    rw [hW3, cell_other _ _ (.inr (by omega)), cell_other _ _ (.inr (by omega)), cell_other _ _ (.inr (by omega)), cell_other _ _ (.inr (by omega))]; exact World.cell?_setCell_same' _ _ _ (by rw [n0]; rfl)
  have hf3 : ∀ x, W3.frozen? x = W2.frozen? x := fun x => by rw [hW3]; simp
  have hk3 : Kept [b] w W3 := by rw [hW3]; exact ((((hk2.setCell (.inr (Nat.le_refl _)) _).setCell (.inr (Nat.le_refl _)) _).setCell (.inr (Nat.le_refl _)) _).setCell (.inr (Nat.le_refl _)) _).setCell (.inr (Nat.le_refl _)) _
  clear hW3 n0 n1 n2 n3 n4 g0 g1 g2 g3 g4 hst1
  refine leaves_cons (f := 22) (args := #[.pointer (some ⟨b, 9, none⟩)]) (by simp) (by simp [go_sem]) ?_
  refine (unlock_deferred Try.muLib ⟨b, 9, none⟩ .returning W3 ((tb 9).trans c9) ?_).mono ?_
  · rw [hf3, HF.out]; exact S1.out.fr 9
  rintro e u' w'' ⟨rfl, rfl, rfl⟩
  obtain ⟨W4, hW4⟩ : ∃ W4, W4 = W3.setCell ⟨b, 9, none⟩ (.int .i32 0) := ⟨_, rfl⟩
  rw [← hW4]
  have ub : ∀ i, i ≠ 9 → W4.cell? ⟨b, i, none⟩ = W1.cell? ⟨b, i, none⟩ := fun i hi => by rw [hW4, cell_other _ _ (.inr (Ne.symm hi)), tb i]; exact HO.out i hi
  have un : ∀ i, W4.cell? ⟨w.heap.size, i, none⟩ = W3.cell? ⟨w.heap.size, i, none⟩ := fun i => by rw [hW4]; exact cell_other _ _ (.inl (Ne.symm hne))
  have f0 := (un 0).trans e0
  have f1 := (un 1).trans e1
  have f2 := (un 2).trans e2
  have f3 := (un 3).trans e3
  have f4 := (un 4).trans e4
  have hst : St W4 b cm gm num sl v0 v1 v2 v3 v4 := by
    have h := S1.out
    exact ⟨by rw [hW4, World.size_setCell]; exact Nat.lt_of_lt_of_le hbn hk3.size, (ub 1 (by omega)).trans h.c1, (ub 2 (by omega)).trans h.c2, (ub 3 (by omega)).trans h.c3, (ub 6 (by omega)).trans h.c6, (ub 7 (by omega)).trans h.c7,
      by rw [hW4]; exact World.cell?_setCell_same' _ _ _ (by rw [tb 9, c9]; rfl),
      (ub 11 (by omega)).trans h.c11, (ub 12 (by omega)).trans h.c12, (ub 13 (by omega)).trans h.c13, (ub 14 (by omega)).trans h.c14, (ub 15 (by omega)).trans h.c15, (ub 17 (by omega)).trans h.c17, (ub 18 (by omega)).trans h.c18,
      fun i => by rw [hW4, World.frozen?_setCell, hf3, HF.out]; exact h.fr i, h.one⟩
  have hk4 : Kept [b] w W4 := by rw [hW4]; exact hk3.setCell (.inl (by simp)) _
  clear hW4 un ub
  exact ⟨.agg #[v0, v1, v2, v3, v4], by simp [results, Try.results15, go_sem, f0, f1, f2, f3, f4], rfl, hst, hk4⟩

set_option maxHeartbeats 2000000 in
theorem current9 (b cm gm : Nat) (num : Int) (sl v0 v1 v2 v3 v4 : Value) (w : World) (hst : St w b cm gm num sl v0 v1 v2 v3 v4) :
    Calls Try.prog 9 #[.pointer (some ⟨b, 0, none⟩)] w fun e w' => e = .returned (.agg #[v0, v1, v2, v3, v4]) ∧ St w' b cm gm num sl v0 v1 v2 v3 v4 ∧ Kept [b] w w' := by
  have HS : Hid _ := hst
  clear hst
  go_enter Try.func9, Try.ntmps9
  go_wp2_with fail
  obtain ⟨W1, hW1⟩ : ∃ W1, W1 = w.alloc (.cells #[.int .u64 0, .slice none 0 0, .slice none 0 0, .slice none 0 0, .slice none 0 0] 37) := ⟨_, rfl⟩
  have hk1 : Kept [] w W1 := by rw [hW1]; exact (Kept.refl _ _).alloc _
  have hs1 : w.heap.size < W1.heap.size := by rw [hW1]; simp
  have hn0 : ∀ i, W1.cell? ⟨w.heap.size, i, none⟩ = (#[.int .u64 0, .slice none 0 0, .slice none 0 0, .slice none 0 0, .slice none 0 0] : Array Value)[i]? := fun i => by rw [hW1]; exact new_cell _ _ _ _
  have hnf : ∀ i, W1.frozen? ⟨w.heap.size, i, none⟩ = false := fun i => by rw [hW1]; exact new_frozen _ _ _ _
  have hbn : b < w.heap.size := HS.out.lt
  have S1 : Hid (St W1 b cm gm num sl v0 v1 v2 v3 v4) := HS.out.kept hk1 (by simp)
  rw [← hW1]
  clear hW1 HS
  refine (current15 b cm gm num sl v0 v1 v2 v3 v4 W1 S1.out).mono ?_
  rintro e W2 ⟨rfl, S2, hk2⟩
  have hne : w.heap.size ≠ b := by omega
  have n0 := (hk2.cell (p := ⟨w.heap.size, 0, none⟩) hs1 (by simpa using hne)).trans (hn0 0)
  have n1 := (hk2.cell (p := ⟨w.heap.size, 1, none⟩) hs1 (by simpa using hne)).trans (hn0 1)
  have n2 := (hk2.cell (p := ⟨w.heap.size, 2, none⟩) hs1 (by simpa using hne)).trans (hn0 2)
  have n3 := (hk2.cell (p := ⟨w.heap.size, 3, none⟩) hs1 (by simpa using hne)).trans (hn0 3)
  have n4 := (hk2.cell (p := ⟨w.heap.size, 4, none⟩) hs1 (by simpa using hne)).trans (hn0 4)
  have g0 := (hk2.frozen (p := ⟨w.heap.size, 0, none⟩) hs1 (by simpa using hne)).trans (hnf 0)
  have g1 := (hk2.frozen (p := ⟨w.heap.size, 1, none⟩) hs1 (by simpa using hne)).trans (hnf 1)
  have g2 := (hk2.frozen (p := ⟨w.heap.size, 2, none⟩) hs1 (by simpa using hne)).trans (hnf 2)
  have g3 := (hk2.frozen (p := ⟨w.heap.size, 3, none⟩) hs1 (by simpa using hne)).trans (hnf 3)
  have g4 := (hk2.frozen (p := ⟨w.heap.size, 4, none⟩) hs1 (by simpa using hne)).trans (hnf 4)
  simp at n0 n1 n2 n3 n4
  obtain ⟨_, o0, o1, o2, o3, o4⟩ := S1.out.one
  have hst1 := run_store_one Try.prog
  have HS2 : Hid _ := S2
  have hkw : Kept [b] w W2 := (hk1.mono (by simp)).trans hk2
  clear hn0 hnf S1 S2 hk1 hk2
  go_wp2
  obtain ⟨W3, hW3⟩ : ∃ W3, W3 = ((((W2.setCell ⟨w.heap.size, 0, none⟩ v0).setCell ⟨w.heap.size, 1, none⟩ v1).setCell ⟨w.heap.size, 2, none⟩ v2).setCell ⟨w.heap.size, 3, none⟩ v3).setCell ⟨w.heap.size, 4, none⟩ v4 := ⟨_, rfl⟩
  rw [← hW3]
  have e4 : W3.cell? ⟨w.heap.size, 4, none⟩ = some v4 := by
    rw [hW3]; refine World.cell?_setCell_same' _ _ _ ?_
    rw [cell_other _ _ (.inr (by omega)), cell_other _ _ (.inr (by omega)), cell_other _ _ (.inr (by omega)), cell_other _ _ (.inr (by omega)), n4]; rfl
  have e3 : W3.cell? ⟨w.heap.size, 3, none⟩ = some v3 := by
    rw [hW3, cell_other _ _ (.inr (by omega))]; refine World.cell?_setCell_same' _ _ _ ?_
    rw [cell_other _ _ (.inr (by omega)), cell_other _ _ (.inr (by omega)), cell_other _ _ (.inr (by omega)), n3]; rfl
  have e2 : W3.cell? ⟨w.heap.size, 2, none⟩ = some v2 := by
    rw [hW3, cell_other _ _ (.inr (by omega)), cell_other _ _ (.inr (by omega))]; refine World.cell?_setCell_same' _ _ _ ?_
    rw [cell_other _ _ (.inr (by omega)), cell_other _ _ (.inr (by omega)), n2]; rfl
  have e1 : W3.cell? ⟨w.heap.size, 1, none⟩ = some v1 := by
    rw [hW3, cell_other _ _ (.inr (by omega)), cell_other _ _ (.inr (by omega)), cell_other _ _ (.inr (by omega))]; refine World.cell?_setCell_same' _ _ _ ?_
    rw [cell_other _ _ (.inr (by omega)), n1]; rfl
  have e0 : W3.cell? ⟨w.heap.size, 0, none⟩ = some v0 := by
    rw [hW3, cell_other _ _ (.inr (by omega)), cell_other _ _ (.inr (by omega)), cell_other _ _ (.inr (by omega)), cell_other _ _ (.inr (by omega))]; exact World.cell?_setCell_same' _ _ _ (by rw [n0]; rfl)
  have hk3 : Kept [w.heap.size] W2 W3 := by rw [hW3]; exact (((((Kept.refl _ _).setCell (.inl (by simp)) _).setCell (.inl (by simp)) _).setCell (.inl (by simp)) _).setCell (.inl (by simp)) _).setCell (.inl (by simp)) _
  clear hW3 n0 n1 n2 n3 n4 g0 g1 g2 g3 g4 hst1
  exact bodyPost_ret (v := .agg #[v0, v1, v2, v3, v4]) (by simp [results, Try.results9, go_sem, e0, e1, e2, e3, e4]) rfl ⟨rfl, HS2.out.kept hk3 (by simpa using Ne.symm hne), hkw.trans' hk3 (by simp)⟩
end Go.Proofs.Qxb6614904a
