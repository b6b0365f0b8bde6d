/-
  THE CLOSURE THAT COMPARES TWO PAIRS; slices.SortFunc AT PAIRS.
-/
import Derived.Test.Qxb6614904aIter
import Derived.ProofKit
import Derived.Deep.RegionHeld3
import Derived.Shelf.SlSortCmp.WholeK
namespace Go.Proofs.Qxb6614904a
open Go.RowKit Go.Maps Go.Sort Go.Shelf

def cmpI (a b : Int) : Int := if a < b then -1 else if b < a then 1 else 0

theorem isNaN43 (a : Int) (w : World) : Calls Try.prog 43 #[.int .u64 a] w fun e w' => e = .returned (.bool false) ∧ w' = w := by
  go_enter Try.func43, Try.ntmps43
  go_wp2
  go_ret
  exact ⟨rfl, rfl⟩
theorem isNaN44 (a : Int) (w : World) : Calls Try.prog 44 #[.int .i64 a] w fun e w' => e = .returned (.bool false) ∧ w' = w := by
  go_enter Try.func44, Try.ntmps44
  go_wp2
  go_ret
  exact ⟨rfl, rfl⟩

set_option maxHeartbeats 1000000 in
theorem compare31 (a b : Int) (w : World) : Calls Try.prog 31 #[.int .u64 a, .int .u64 b] w fun e w' => e = .returned (.int .i64 (cmpI a b)) ∧ w' = w := by
  by_cases c1 : a < b
  · have hr : cmpI a b = -1 := by simp [cmpI, c1]
    rw [hr]
    go_enter Try.func31, Try.ntmps31
    go_wp2_with (go_at_call 43; refine (isNaN43 _ _).mono ?_; rintro e w' ⟨rfl, rfl⟩)
    go_ret
    exact ⟨rfl, rfl⟩
  · by_cases c2 : b < a
    · have hr : cmpI a b = 1 := by simp [cmpI, c1, c2]
      rw [hr]
      go_enter Try.func31, Try.ntmps31
      go_wp2_with (go_at_call 43; refine (isNaN43 _ _).mono ?_; rintro e w' ⟨rfl, rfl⟩)
      go_ret
      exact ⟨rfl, rfl⟩
    · have hr : cmpI a b = 0 := by simp [cmpI, c1, c2]
      rw [hr]
      go_enter Try.func31, Try.ntmps31
      go_wp2_with (go_at_call 43; refine (isNaN43 _ _).mono ?_; rintro e w' ⟨rfl, rfl⟩)
      go_ret
      exact ⟨rfl, rfl⟩

set_option maxHeartbeats 1000000 in
theorem compare32 (a b : Int) (w : World) : Calls Try.prog 32 #[.int .i64 a, .int .i64 b] w fun e w' => e = .returned (.int .i64 (cmpI a b)) ∧ w' = w := by
  by_cases c1 : a < b
  · have hr : cmpI a b = -1 := by simp [cmpI, c1]
    rw [hr]
    go_enter Try.func32, Try.ntmps32
    go_wp2_with (go_at_call 44; refine (isNaN44 _ _).mono ?_; rintro e w' ⟨rfl, rfl⟩)
    go_ret
    exact ⟨rfl, rfl⟩
  · by_cases c2 : b < a
    · have hr : cmpI a b = 1 := by simp [cmpI, c1, c2]
      rw [hr]
      go_enter Try.func32, Try.ntmps32
      go_wp2_with (go_at_call 44; refine (isNaN44 _ _).mono ?_; rintro e w' ⟨rfl, rfl⟩)
      go_ret
      exact ⟨rfl, rfl⟩
    · have hr : cmpI a b = 0 := by simp [cmpI, c1, c2]
      rw [hr]
      go_enter Try.func32, Try.ntmps32
      go_wp2_with (go_at_call 44; refine (isNaN44 _ _).mono ?_; rintro e w' ⟨rfl, rfl⟩)
      go_ret
      exact ⟨rfl, rfl⟩

set_option maxHeartbeats 2000000 in
/-- cmp.Or of two numbers. -/
theorem or30 (p q r : Int) (hr : r = if p = 0 then q else p) (g : Nat) (w : World) (c0 : w.cell? ⟨g, 0, none⟩ = some (.int .i64 p)) (c1 : w.cell? ⟨g, 1, none⟩ = some (.int .i64 q)) :
    Calls Try.prog 30 #[.slice (some ⟨g, 0, none⟩) 2 2] w fun e w' => e = .returned (.int .i64 r) ∧ w' = w := by
  have Hr : Hid (r = if p = 0 then q else p) := hr
  clear hr
  go_enter Try.func30, Try.ntmps30
  go_wp2
  go_loop [8] (fun i => ∃ k : Nat, k ≤ 2 ∧ i = .int .i64 k ∧ (1 ≤ k → p = 0) ∧ (2 ≤ k → q = 0)) (fun i => 2 - (intOf i).toNat)
  case atStart => exact ⟨0, by omega, rfl, by omega, by omega⟩
  case round =>
    obtain ⟨k, hk, rfl, h1, h2⟩ := hrel
    obtain rfl | rfl | rfl : k = 0 ∨ k = 1 ∨ k = 2 := by omega
    · clear h1 h2
      by_cases hp : p = 0
      · go_wp2
        go_round
        case rel => exact ⟨1, by omega, by go_num, fun _ => hp, by omega⟩
        case measure => simp [intOf]
      · go_wp2
        go_ret
        exact ⟨by rw [Hr.out, if_neg hp]; rfl, rfl⟩
    · have hp := h1 (by omega)
      clear h1 h2
      by_cases hq : q = 0
      · go_wp2
        go_round
        case rel => exact ⟨2, by omega, by go_num, fun _ => hp, fun _ => hq⟩
        case measure => simp [intOf]
      · go_wp2
        go_ret
        exact ⟨by rw [Hr.out, if_pos hp]; rfl, rfl⟩
    · have hp := h1 (by omega)
      have hq := h2 (by omega)
      clear h1 h2
      go_wp2
      go_ret
      exact ⟨by rw [Hr.out, if_pos hp, hq]; rfl, rfl⟩

def cmpP (x y : Int × Int) : Int := if cmpI x.2 y.2 = 0 then cmpI x.1 y.1 else cmpI x.2 y.2
def cellsP (x : Int × Int) : List Value := [.int .i64 x.1, .int .u64 x.2]

set_option maxHeartbeats 4000000 in
theorem closure29 (x y : Int × Int) (W : World) : Calls Try.prog 29 #[.agg #[.int .i64 x.1, .int .u64 x.2], .agg #[.int .i64 y.1, .int .u64 y.2]] W fun e w' => e = .returned (.int .i64 (cmpP x y)) ∧ ∃ q os', w' = grow (W.drewN q) os' := by
  obtain ⟨x1, x2⟩ := x
  obtain ⟨y1, y2⟩ := y
  obtain ⟨r, hr⟩ : ∃ r, r = cmpP (x1, x2) (y1, y2) := ⟨_, rfl⟩
  rw [← hr]
  have Hr : Hid (r = cmpP (x1, x2) (y1, y2)) := hr
  clear hr
  simp only
  go_enter Try.func29, Try.ntmps29
  go_wp2
  go_region_held3 (fun w' => w'.cell? ⟨W.heap.size, 0, none⟩ = some (.int .i64 x1) ∧ w'.cell? ⟨W.heap.size, 1, none⟩ = some (.int .u64 x2) ∧ w'.cell? ⟨W.heap.size + 1, 0, none⟩ = some (.int .i64 y1) ∧ w'.cell? ⟨W.heap.size + 1, 1, none⟩ = some (.int .u64 y2)) (go_keep)
    (first | (go_at_call 31; refine (compare31 _ _ _).mono ?_; rintro e w' ⟨rfl, rfl⟩) | (go_at_call 32; refine (compare32 _ _ _).mono ?_; rintro e w' ⟨rfl, rfl⟩) | (go_at_call 30; refine (or30 (cmpI x2 y2) (cmpI x1 y1) r Hr.out (W.heap.size + 1 + 1) _ (by simp only [World.cell?_drew]; rw [World.cell?_alloc_at _ _ _ _ (by simp)]; rfl) (by simp only [World.cell?_drew]; rw [World.cell?_alloc_at _ _ _ _ (by simp)]; rfl)).mono ?_; rintro e w' ⟨rfl, rfl⟩))
  go_wp2
  go_ret
  exact ⟨rfl, 1, _, by rw [alloc_eq_grow, alloc_eq_grow, alloc_eq_grow, grow_grow, grow_grow]; rfl⟩

theorem cmpLays29 (blk off size : Nat) (w : World) : CmpLays Try.prog 29 #[] cellsP 2 cmpP blk off size w :=
  fun _ _ _ _ x y => closure29 x y _

theorem lt_iff (x y : Int × Int) : ltOf cmpP x y = true ↔ x.2 < y.2 ∨ (x.2 = y.2 ∧ x.1 < y.1) := by
  by_cases a : x.2 < y.2 <;> by_cases b : y.2 < x.2 <;> by_cases c : x.1 < y.1 <;> by_cases d : y.1 < x.1 <;> simp [ltOf, cmpP, cmpI, a, b, c, d] <;> omega
theorem swoP : SWO (ltOf cmpP) where
  irrefl x := by
    cases h : ltOf cmpP x x
    · rfl
    · have := (lt_iff x x).1 h; omega
  trans x y z h1 h2 := by
    have := (lt_iff x y).1 h1
    have := (lt_iff y z).1 h2
    exact (lt_iff x z).2 (by omega)
  ntrans x y z h1 h2 := by
    have a : ¬ ltOf cmpP x y = true := by rw [h1]; simp
    have b : ¬ ltOf cmpP y z = true := by rw [h2]; simp
    rw [lt_iff] at a b
    cases h : ltOf cmpP x z
    · rfl
    · have := (lt_iff x z).1 h; omega

theorem flatP_get : ∀ (ss : List (Int × Int)) (t : Nat), t < ss.length * 2 → (flatP ss)[t]? = some ((cellsP ss.toArray[t / 2]!)[t % 2]!)
  | [], t, h => by simp at h
  | x :: r, 0, _ => by simp [flatP, cellsP]
  | x :: r, 1, _ => by simp [flatP, cellsP]
  | x :: r, t + 2, h => by
    have e : flatP (x :: r) = .int .i64 x.1 :: .int .u64 x.2 :: flatP r := rfl
    have ih := flatP_get r t (by simp at h; omega)
    rw [e]
    simp only [List.getElem?_cons_succ, ih]
    have h1 : (t + 2) / 2 = t / 2 + 1 := by omega
    have h2 : (t + 2) % 2 = t % 2 := by omega
    rw [h1, h2]
    simp

theorem flatK_eq (ss : List (Int × Int)) : flatK cellsP 2 ss.toArray = (flatP ss).toArray := by
  apply Array.ext_getElem?
  intro t
  by_cases h : t < ss.length * 2
  · rw [Array.getElem?_eq_getElem (by simpa using h)]
    have := get_flatK cellsP 2 ss.toArray t (by simpa using h)
    rw [getElem!_pos _ t (by simpa using h)] at this
    rw [this]
    simp only [List.getElem?_toArray]
    rw [flatP_get ss t h]
  · rw [Array.getElem?_eq_none (by simpa using h), List.getElem?_toArray, List.getElem?_eq_none (by rw [flatP_length]; omega)]

theorem holds_of_block_p {w : World} {g : Nat} {cur : Array Value} {e : TypeId} {F : List Value} (hb : w.heap[g]? = some (.cells cur e (0, 0))) (ht : cur.toList.take F.length = F) : Holds (id : Value → Value) w g 0 F.toArray := by
  intro j hj
  have hj' : j < F.length := by simpa using hj
  refine ⟨?_, by simp [World.frozen?, hb]⟩
  have h1 : (cur.toList.take F.length)[j]? = F[j]? := by rw [ht]
  rw [List.getElem?_take_of_lt hj'] at h1
  simp only [World.cell?, hb, Nat.zero_add]
  simp only [Option.isSome_none, Bool.false_eq_true, if_false]
  rw [← Array.getElem?_toList, h1]
  simp [hj']

theorem heap_sorted_p {w : World} {g n : Nat} {os : Array Obj} {cur : Array Value} {e : TypeId} {fr : Nat × Nat} (d : Array Value) (hb : w.heap[g]? = some (.cells cur e fr)) :
    (grow (putRow (id : Value → Value) (Sort.ahead w n) g 0 d) os).heap[g]? = some (.cells (putCells id 0 d cur) e fr) := by
  have hg : g < w.heap.size := (Array.getElem?_eq_some_iff.1 hb).1
  rw [heap_grow_old _ _ (by simpa using hg)]
  simp [putRow, mapBlock, Sort.ahead, Array.getElem?_modify, hb, onCells]

theorem grownBy_sorted_p {w : World} {g n : Nat} {os : Array Obj} (d : Array Value) : w.grownBy (grow (putRow (id : Value → Value) (Sort.ahead w n) g 0 d) os) (some g) := by
  refine ⟨rfl, rfl, rfl, by simp, fun k hk hne => ?_⟩
  rw [heap_grow_old _ _ (by simpa using hk)]
  have : g ≠ k := fun e => hne (by rw [e])
  simp [putRow, mapBlock, Sort.ahead, Array.getElem?_modify, this]

theorem take_putCells_p (cur : Array Value) (ts : List Value) (h : ts.length ≤ cur.size) : (putCells (id : Value → Value) 0 ts.toArray cur).toList.take ts.length = ts := by
  apply List.ext_getElem?
  intro j
  by_cases hj : j < ts.length
  · rw [List.getElem?_take_of_lt hj, Array.getElem?_toList]
    simp [putCells, hj, show j < cur.size by omega]
  · rw [List.getElem?_take_eq_none (by omega), List.getElem?_eq_none (by omega)]

/-- BEHIND THE SORT the same slice owns the sorted list. -/
theorem ownsRow_sorted_p {w : World} {base g cap n : Nat} {os : Array Obj} {cur : Array Value} {ts : List (Int × Int)} (hbase : base ≤ g) (hb : w.heap[g]? = some (.cells cur 70 (0, 0)))
    (h1 : ts.length ≤ cap) (h2 : cap ≤ maxLen) (h3 : cur.size = cap * 2) :
    (sortWorldK cellsP 2 w g 0 n ts.toArray os).ownsRow base 70 2 (.slice (some ⟨g, 0, none⟩) ts.length cap) ts.length (flatP ts) := by
  refine ⟨flatP_length ts, .inr ⟨g, cap, _, rfl, hbase, heap_sorted_p _ hb, h1, h2, by simp [putCells, h3], ?_⟩⟩
  rw [flatK_eq, ← flatP_length]
  exact take_putCells_p cur _ (by rw [flatP_length]; omega)
theorem grownBy_sortK {w : World} {g n : Nat} {os : Array Obj} (d : Array (Int × Int)) : w.grownBy (sortWorldK cellsP 2 w g 0 n d os) (some g) := grownBy_sorted_p _
end Go.Proofs.Qxb6614904a
