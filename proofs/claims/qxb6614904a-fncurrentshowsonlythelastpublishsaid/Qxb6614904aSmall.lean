/-
  THE SMALL FUNCTIONS: zzBytes, cloneU64, ZZnewState, ZZsetGone, the readers of a view, current.
-/
import Derived.Test.Qxb6614904aPairs
import Derived.WalkLawsBesides
namespace Go.Proofs.Qxb6614904a
open Go.RowKit Go.Maps

def SomeBool (e : Ending) : Prop := ∃ t : Bool, e = .returned (.bool t)
set_option maxHeartbeats 1000000 in
theorem bytes4 (a0 : Int) (a1 : Option Addr) (len1 cap1 : Nat) (a2 : Option Addr) (len2 cap2 : Nat) (a3 : Option Addr) (len3 cap3 : Nat) (a4 a5 : Int) (w : World) (h1 : len1 ≤ maxLen) (h2 : len2 ≤ maxLen) (h3 : len3 ≤ maxLen) :
    Calls Try.prog 4 #[.int .u64 a0, .slice a1 len1 cap1, .slice a2 len2 cap2, .slice a3 len3 cap3, .int .i64 a4, .int .u64 a5] w fun e w' => SomeBool e ∧ w' = w := by
  unfold maxLen at h1 h2 h3
  by_cases c1 : len1 ≤ 1048576
  · by_cases c2 : len2 ≤ 1048576
    · by_cases c3 : len1 + len2 ≤ 1048576
      · by_cases c4 : len3 ≤ 1048576
        · by_cases c5 : len1 + len2 + len3 ≤ 1048576
          all_goals
            go_enter Try.func4, Try.ntmps4
            go_wp2
            go_ret
            exact ⟨⟨_, rfl⟩, rfl⟩
        · go_enter Try.func4, Try.ntmps4
          go_wp2
          go_ret
          exact ⟨⟨_, rfl⟩, rfl⟩
      · go_enter Try.func4, Try.ntmps4
        go_wp2
        go_ret
        exact ⟨⟨_, rfl⟩, rfl⟩
    · go_enter Try.func4, Try.ntmps4
      go_wp2
      go_ret
      exact ⟨⟨_, rfl⟩, rfl⟩
  · go_enter Try.func4, Try.ntmps4
    go_wp2
    go_ret
    exact ⟨⟨_, rfl⟩, rfl⟩

set_option maxHeartbeats 1000000 in
theorem relLen10 (c0 c1 c2 c3 : Value) (a : Option Addr) (len cap : Nat) (w : World) :
    Calls Try.prog 10 #[.agg #[c0, c1, c2, c3, .slice a len cap]] w fun e w' => e = .returned (.int .i64 len) ∧ Kept [] w w' := by
  go_enter Try.func10, Try.ntmps10
  go_wp2
  go_ret
  exact ⟨rfl, (Kept.refl _ _).alloc _⟩

set_option maxHeartbeats 1000000 in
theorem config13 (num : Int) (sl c2 c3 c4 : Value) (w : World) :
    Calls Try.prog 13 #[.agg #[.int .u64 num, sl, c2, c3, c4]] w fun e w' => e = .returned (.tuple #[.int .u64 num, sl]) ∧ Kept [] w w' := by
  go_enter Try.func13, Try.ntmps13
  go_wp2
  go_quiet (fail)
  go_wp2
  exact bodyPost_ret (v := .tuple #[.int .u64 num, sl]) (by simp [results, Try.results13, go_sem]) rfl ⟨rfl, ((Kept.refl _ _).alloc _).drewN _⟩

set_option maxHeartbeats 1000000 in
theorem rel11 (c0 c1 c2 c3 : Value) (g len cap i : Nat) (x1 x2 : Int) (w : World) (hi : i < len) (hg : g < w.heap.size) (h1 : w.cell? ⟨g, i * 2, none⟩ = some (.int .i64 x1)) (h2 : w.cell? ⟨g, i * 2 + 1, none⟩ = some (.int .u64 x2)) :
    Calls Try.prog 11 #[.agg #[c0, c1, c2, c3, .slice (some ⟨g, 0, none⟩) len cap], .int .i64 i] w fun e w' => e = .returned (.tuple #[.int .i64 x1, .int .u64 x2]) ∧ Kept [] w w' := by
  go_enter Try.func11, Try.ntmps11
  go_wp2
  go_quiet (fail)
  go_wp2
  exact bodyPost_ret (v := .tuple #[.int .i64 x1, .int .u64 x2]) (by simp [results, Try.results11, go_sem]) rfl ⟨rfl, (((Kept.refl _ _).alloc _).alloc _).drewN _⟩

/-- The state's block: the cells that the walks read; its view is v0 .. v4; its lock is free. -/
structure St (w : World) (b cm gm : Nat) (num : Int) (sl v0 v1 v2 v3 v4 : Value) : Prop where
  lt : b < w.heap.size
  c1 : w.cell? ⟨b, 1, none⟩ = some (.int .u64 num)
  c2 : w.cell? ⟨b, 2, none⟩ = some sl
  c3 : w.cell? ⟨b, 3, none⟩ = some (.slice none 0 0)
  c6 : w.cell? ⟨b, 6, none⟩ = some (.map (some cm))
  c7 : w.cell? ⟨b, 7, none⟩ = some (.map (some gm))
  c9 : w.cell? ⟨b, 9, none⟩ = some (.int .i32 0)
  c11 : w.cell? ⟨b, 11, none⟩ = some v0
  c12 : w.cell? ⟨b, 12, none⟩ = some v1
  c13 : w.cell? ⟨b, 13, none⟩ = some v2
  c14 : w.cell? ⟨b, 14, none⟩ = some v3
  c15 : w.cell? ⟨b, 15, none⟩ = some v4
  c17 : w.cell? ⟨b, 17, none⟩ = some (.chan none)
  c18 : w.cell? ⟨b, 18, none⟩ = some (.chan none)
  fr : ∀ i, w.frozen? ⟨b, i, none⟩ = false
  one : sl.oneCell' = true ∧ v0.oneCell' = true ∧ v1.oneCell' = true ∧ v2.oneCell' = true ∧ v3.oneCell' = true ∧ v4.oneCell' = true

theorem St.kept {S : List Nat} {w w' : World} {b cm gm : Nat} {num : Int} {sl v0 v1 v2 v3 v4 : Value} (h : St w b cm gm num sl v0 v1 v2 v3 v4) (hk : Kept S w w') (hS : b ∉ S) : St w' b cm gm num sl v0 v1 v2 v3 v4 := by
  have e : ∀ i, w'.cell? ⟨b, i, none⟩ = w.cell? ⟨b, i, none⟩ := fun i => hk.cell (p := ⟨b, i, none⟩) h.lt hS
  exact ⟨Nat.lt_of_lt_of_le h.lt hk.size, (e 1).trans h.c1, (e 2).trans h.c2, (e 3).trans h.c3, (e 6).trans h.c6, (e 7).trans h.c7, (e 9).trans h.c9, (e 11).trans h.c11, (e 12).trans h.c12, (e 13).trans h.c13, (e 14).trans h.c14, (e 15).trans h.c15, (e 17).trans h.c17, (e 18).trans h.c18,
    fun i => (hk.frozen (p := ⟨b, i, none⟩) h.lt hS).trans (h.fr i), h.one⟩

theorem new_cell (W : World) (c : Array Value) (t : TypeId) (i : Nat) : (W.alloc (.cells c t)).cell? ⟨W.heap.size, i, none⟩ = c[i]? := World.cell?_alloc_at _ _ _ _ rfl
theorem new_frozen (W : World) (c : Array Value) (t : TypeId) (i : Nat) : (W.alloc (.cells c t)).frozen? ⟨W.heap.size, i, none⟩ = false := by
  rw [frozen?_alloc_cells]
  simp [World.frozen?]

def NewSt (num : Int) (sl : Value) (w : World) (e : Ending) (w' : World) : Prop :=
  ∃ b cm gm v0 v1 v2 v3 v4, e = .returned (.pointer (some ⟨b, 0, none⟩)) ∧ St w' b cm gm num sl v0 v1 v2 v3 v4 ∧ w'.heap[cm]? = some (.map #[] 0) ∧ GoneMap w' gm [] ∧ w.heap.size ≤ b ∧ w.heap.size ≤ cm ∧ w.heap.size ≤ gm ∧ b ≠ cm ∧ b ≠ gm ∧ cm ≠ gm ∧ Kept [] w w'

set_option maxHeartbeats 2000000 in
theorem new5 (num : Int) (a : Option Addr) (len cap : Nat) (w : World) :
    Calls Try.prog 5 #[.int .u64 num, .slice a len cap] w fun e w' => NewSt num (.slice a len cap) w e w' := by
  have hmm := @run_makeMap Try.prog
  go_enter Try.func5, Try.ntmps5
  go_wp2
  refine bodyPost_ret (v := .pointer (some ⟨w.heap.size + 1 + 1, 0, none⟩)) (by simp [results, Try.results5, go_sem]) rfl ?_
  obtain ⟨W1, hW1⟩ : ∃ W1, W1 = (w.alloc (.map #[] 0)).alloc (.map #[] 0) := ⟨_, rfl⟩
  have hs : W1.heap.size = w.heap.size + 1 + 1 := by rw [hW1]; simp
  have hm0 : W1.heap[w.heap.size]? = some (.map #[] 0) := by rw [hW1, Below.heap_alloc _ _ _ (by simp)]; exact World.alloc_heap_new w _
  have hm1 : GoneMap W1 (w.heap.size + 1) [] := by
    have := GoneMap.made (w.alloc (.map #[] 0))
    rw [World.size_alloc] at this
    rw [hW1]; exact this
  have hk : Kept [] w W1 := by rw [hW1]; exact ((Kept.refl _ _).alloc _).alloc _
  rw [← hW1, ← hs]
  exact ⟨W1.heap.size, w.heap.size, w.heap.size + 1, .int .u64 0, .slice none 0 0, .slice none 0 0, .slice none 0 0, .slice none 0 0, rfl,
    ⟨by simp, new_cell _ _ _ _, new_cell _ _ _ _, new_cell _ _ _ _, new_cell _ _ _ _, new_cell _ _ _ _, new_cell _ _ _ _, new_cell _ _ _ _, new_cell _ _ _ _, new_cell _ _ _ _, new_cell _ _ _ _, new_cell _ _ _ _, new_cell _ _ _ _, new_cell _ _ _ _, new_frozen _ _ _, rfl, rfl, rfl, rfl, rfl, rfl⟩,
    (Below.heap_alloc _ _ _ (by omega)).trans hm0, hm1.block (Below.heap_alloc _ _ _ (by omega)), by omega, Nat.le_refl _, by omega, by omega, by omega, by omega, hk.alloc _⟩

def SomeSlice (e : Ending) : Prop := ∃ (x : Option Addr) (l c : Nat), e = .returned (.slice x l c)
theorem size22 : (Try.prog.info? 22).map (·.size) = some 1 := by kernel_rfl
theorem size3 : (Try.prog.info? 3).map (·.size) = some 1 := by kernel_rfl
theorem info3 : (Try.prog.info? 3).map (fun i => (i.zero, i.size, i.bytes)) = some (some (.int .i64 0), 1, 8) := by kernel_rfl
theorem info22 : (Try.prog.info? 22).map (fun i => (i.zero, i.size, i.bytes)) = some (some (.int .u64 0), 1, 8) := by kernel_rfl
/-- A slice that came in: its first len cells are zs. -/
structure Src (q : IntKind) (w : World) (a : Option Addr) (len : Nat) (zs : List Int) : Prop where
  cnt : zs.length = len
  cells : 0 < len → ∃ ad, a = some ad ∧ ad.block < w.heap.size ∧ ∀ j, j < len → w.cell? (ad.add j) = some (.int q (zs.getD j 0))
theorem Src.news {q : IntKind} {w : World} {ad : Addr} {len : Nat} {zs : List Int} (h : zs.length = len) (hc : ∀ j, j < len → w.cell? (ad.add j) = some (.int q (zs.getD j 0))) : ∀ j v, (zs.map (Value.int q))[j]? = some v → w.cell? (ad.add j) = some v := fun j v hv => by
  rw [List.getElem?_map] at hv
  obtain ⟨x, hx, rfl⟩ := Option.map_eq_some_iff.1 hv
  rw [hc j (by rw [← h]; exact (List.getElem?_eq_some_iff.1 hx).1)]
  simp [List.getD_eq_getElem?_getD, hx]
theorem Src.kept {S : List Nat} {q : IntKind} {w w' : World} {a : Option Addr} {len : Nat} {zs : List Int} (h : Src q w a len zs) (hk : Kept S w w') (hS : ∀ x, a = some x → x.block ∉ S) : Src q w' a len zs := ⟨h.cnt, fun h0 => by
  obtain ⟨ad, e1, e2, e3⟩ := h.cells h0
  have hb : ∀ j, (ad.add j).block = ad.block := fun j => by unfold Addr.add; split <;> rfl
  exact ⟨ad, e1, Nat.lt_of_lt_of_le e2 hk.size, fun j hj => (hk.cell (p := ad.add j) (by rw [hb]; exact e2) (by rw [hb]; exact hS ad e1)).trans (e3 j hj)⟩⟩
theorem run_copy_src {T e : TypeId} {q : IntKind} {w : World} {a : Option Addr} {len cap dLen dCap g : Nat} {zs : List Int} {cur : List Value} (hu : Try.prog.underlying T = some (.slice e)) (hs : (Try.prog.info? e).map (·.size) = some 1) (h : Src q w a len zs) (hg : w.heap[g]? = some (.cells cur.toArray e (0, 0)))
    (hd : len ≤ dLen) (hc : len ≤ cur.length) :
    ∃ w3, (Builtin.copy_ #[T, T] 3 #[.slice (some ⟨g, 0, none⟩) dLen dCap, .slice a len cap]).run Try.prog w = .ok (goInt len) w3 ∧ w3.heap[g]? = some (.cells (zs.map (Value.int q) ++ cur.drop len).toArray e (0, 0)) ∧ w.grownBy w3 (some g) := by
  have hmin : Nat.min len dLen = len := Nat.min_eq_left hd
  by_cases h0 : 0 < len
  · obtain ⟨ad, rfl, e2, e3⟩ := h.cells h0
    have hrun := run_copy_row (P := Try.prog) w T T 3 e g 0 dLen dCap ad len cap cur.toArray e (zs.map (Value.int q)) hu hs hg (by rw [hmin, List.length_map, h.cnt]) (Src.news h.cnt e3) (by simp [h.cnt]; omega) (fun v hv => by obtain ⟨y, _, rfl⟩ := List.mem_map.1 hv; rfl)
    rw [show (zs.map (Value.int q)).length = len by rw [List.length_map, h.cnt]] at hrun
    refine ⟨_, hrun, ?_, ?_⟩
    · simpa using setRow_heap w g _ _ e _ hg
    · exact ⟨rfl, rfl, rfl, by simp [World.setRow], fun k hk hne => setRow_other w g k _ (fun e => hne (by rw [e]))⟩
  · obtain rfl : len = 0 := by omega
    have hz : zs = [] := List.eq_nil_of_length_eq_zero h.cnt
    subst hz
    exact ⟨w, run_copy_none (P := Try.prog) w T T 3 e _ _ _ _ _ _ hu hs hmin, by simpa using hg, ⟨rfl, rfl, rfl, Nat.le_refl _, fun _ _ _ => rfl⟩⟩
theorem made_block {w : World} {base n g : Nat} {e : TypeId} {xs : List Value} (h : w.ownsRow base e 1 (.slice (some ⟨g, 0, none⟩) n n) n xs) : ∃ cur : List Value, w.heap[g]? = some (.cells cur.toArray e (0, 0)) ∧ cur.length = n ∧ base ≤ g := by
  rcases h.2 with ⟨h', _⟩ | ⟨g', cap, cur, he, hb, hh, h1, h2, h3, h4⟩
  · cases h'
  · cases he
    exact ⟨cur.toList, by simpa using hh, by simpa using h3, hb⟩

set_option maxRecDepth 100000 in
set_option maxHeartbeats 2000000 in
theorem clone6 (a : Option Addr) (len cap : Nat) (zs : List Int) (w : World) (h : Src .u64 w a len zs) (hl : len ≤ 131072) :
    Calls Try.prog 6 #[.slice a len cap] w fun e w' => SomeSlice e ∧ Kept [] w w' := by
  obtain ⟨i, hi, hz0, hz1, hz2⟩ := info_parts info22
  have heq : ∀ w, (binOp .eql 23 (.slice a len cap) (.slice none 0 0)).run Try.prog w = .ok (.bool a.isNone) w := fun w => by
    simp [binOp, run_equal_slice_nil w 23 22 a len cap Try.underlying23, Result.andThen, go_sem]
  cases a with
  | none =>
    go_enter Try.func6, Try.ntmps6
    go_wp2
    go_ret
    exact ⟨⟨_, _, _, rfl⟩, Kept.refl _ _⟩
  | some x =>
    have H : Hid (Src .u64 w (some x) len zs) := h
    clear h
    go_enter Try.func6, Try.ntmps6
    go_wp2_with (at_make; refine wpList_make_full _ rfl _ _ 23 rfl w.heap.size 22 i (.int .u64 0) 1 Try.underlying23 hi hz0 hz1 _ _ _ _ len rfl rfl rfl rfl (by rw [hz2]; omega) (by unfold maxLen; omega) (Nat.le_refl _) ?_)
    intro w2 hown hg2
    obtain ⟨cur, hcur, hcl, hbg⟩ := made_block hown
    have Hcur : Hid _ := hcur
    clear hown hcur
    have hb2 : Below w.heap.size w w2 := (Below.refl _ w).grown hg2 (Nat.le_refl _) (by simp)
    obtain ⟨w3, hrun, _, hg3⟩ := run_copy_src (T := 23) (cap := cap) (dLen := len) (dCap := len) Try.underlying23 size22 (H.out.kept (Kept.of_below (S := []) hb2) (by simp)) Hcur.out (by omega) (by omega)
    have hb3 : Below w.heap.size w w3 := hb2.grown hg3 hb2.size (fun k e => by cases e; exact Nat.le_refl _)
    clear hg3 Hcur
    go_wp2
    go_ret
    exact ⟨⟨_, _, _, rfl⟩, Kept.of_below hb3⟩
end Go.Proofs.Qxb6614904a
