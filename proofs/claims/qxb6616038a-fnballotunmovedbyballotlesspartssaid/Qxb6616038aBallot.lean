/-
  (Message).ballot AND ZZballot: what they answer, by the first of the six ballot-bearing pointers that is not nil.
-/
import Derived.Test.Qxb6616038aRows
import Derived.WalkKit
import Derived.ProofKit
namespace Go.Proofs.Qxb6616038a
open Go.RowKit

/-- The first pointer of the list that is not nil leads to the ballot b; none does: nought, false. -/
def Bal (W : World) (b : Int) (ok : Bool) : List (Option Addr) → Prop
  | [] => b = 0 ∧ ok = false
  | some a :: _ => ∃ k, a = ⟨k, 0, none⟩ ∧ k < W.heap.size ∧ W.cell? ⟨k, 0, none⟩ = some (.int .u64 b) ∧ ok = true
  | none :: r => Bal W b ok r

theorem cell_alloc_old {W : World} {k o : Nat} (hk : k < W.heap.size) (ob : Obj) : (W.alloc ob).cell? ⟨k, o, none⟩ = W.cell? ⟨k, o, none⟩ :=
  ((Below.refl W.heap.size W).alloc (Nat.le_refl _) ob).cell (p := ⟨k, o, none⟩) hk

theorem Bal.turn {W W' : World} {b : Int} {ok : Bool} : {l : List (Option Addr)} → Bal W b ok l → (∀ k, some ⟨k, 0, none⟩ ∈ l → k < W.heap.size → W'.cell? ⟨k, 0, none⟩ = W.cell? ⟨k, 0, none⟩) → W.heap.size ≤ W'.heap.size → Bal W' b ok l
  | [], h, _, _ => h
  | some a :: r, h, hc, hs => by
    obtain ⟨k, rfl, hk, hv, ho⟩ := h
    exact ⟨k, rfl, Nat.lt_of_lt_of_le hk hs, (hc k (List.mem_cons_self ..) hk).trans hv, ho⟩
  | none :: r, h, hc, hs => Bal.turn (l := r) h (fun k hk => hc k (List.mem_cons_of_mem _ hk)) hs

set_option maxHeartbeats 1000000 in
theorem ballot11 (q0 q1 q2 q3 q4 q5 q6 q7 q8 q9 q10 q11 q12 q13 q14 q15 : Option Addr) (b : Int) (ok : Bool) (W : World)
    (h : Bal W b ok [q1, q2, q3, q7, q8, q9]) :
    Calls Try.prog 11 #[.agg #[.pointer q0, .pointer q1, .pointer q2, .pointer q3, .pointer q4, .pointer q5, .pointer q6, .pointer q7, .pointer q8, .pointer q9, .pointer q10, .pointer q11, .pointer q12, .pointer q13, .pointer q14, .pointer q15]] W
      fun e w' => e = .returned (.tuple #[.int .u64 b, .bool ok]) ∧ w' = W.alloc (.cells #[.pointer q0, .pointer q1, .pointer q2, .pointer q3, .pointer q4, .pointer q5, .pointer q6, .pointer q7, .pointer q8, .pointer q9, .pointer q10, .pointer q11, .pointer q12, .pointer q13, .pointer q14, .pointer q15] 48) := by
  rcases q1 with _ | a
  · rcases q2 with _ | a
    · rcases q3 with _ | a
      · rcases q7 with _ | a
        · rcases q8 with _ | a
          · rcases q9 with _ | a
            · obtain ⟨rfl, rfl⟩ := h
              go_enter Try.func11, Try.ntmps11
              go_wp2
              go_ret2
              exact ⟨rfl, rfl⟩
            · obtain ⟨k, rfl, hk, hc, rfl⟩ := h
              have hc' := fun o => (cell_alloc_old hk o).trans hc
              go_enter Try.func11, Try.ntmps11
              go_wp2
              go_ret2
              exact ⟨rfl, rfl⟩
          · obtain ⟨k, rfl, hk, hc, rfl⟩ := h
            have hc' := fun o => (cell_alloc_old hk o).trans hc
            go_enter Try.func11, Try.ntmps11
            go_wp2
            go_ret2
            exact ⟨rfl, rfl⟩
        · obtain ⟨k, rfl, hk, hc, rfl⟩ := h
          have hc' := fun o => (cell_alloc_old hk o).trans hc
          go_enter Try.func11, Try.ntmps11
          go_wp2
          go_ret2
          exact ⟨rfl, rfl⟩
      · obtain ⟨k, rfl, hk, hc, rfl⟩ := h
        have hc' := fun o => (cell_alloc_old hk o).trans hc
        go_enter Try.func11, Try.ntmps11
        go_wp2
        go_ret2
        exact ⟨rfl, rfl⟩
    · obtain ⟨k, rfl, hk, hc, rfl⟩ := h
      have hc' := fun o => (cell_alloc_old hk o).trans hc
      go_enter Try.func11, Try.ntmps11
      go_wp2
      go_ret2
      exact ⟨rfl, rfl⟩
  · obtain ⟨k, rfl, hk, hc, rfl⟩ := h
    have hc' := fun o => (cell_alloc_old hk o).trans hc
    go_enter Try.func11, Try.ntmps11
    go_wp2
    go_ret2
    exact ⟨rfl, rfl⟩

set_option maxHeartbeats 1000000 in
theorem ballot8 (q0 q1 q2 q3 q4 q5 q6 q7 q8 q9 q10 q11 q12 q13 q14 q15 : Option Addr) (b : Int) (ok : Bool) (W : World)
    (h : Bal W b ok [q1, q2, q3, q7, q8, q9]) :
    Calls Try.prog 8 #[.agg #[.pointer q0, .pointer q1, .pointer q2, .pointer q3, .pointer q4, .pointer q5, .pointer q6, .pointer q7, .pointer q8, .pointer q9, .pointer q10, .pointer q11, .pointer q12, .pointer q13, .pointer q14, .pointer q15]] W
      fun e w' => e = .returned (.tuple #[.int .u64 b, .bool ok]) ∧ w' = (W.alloc (.cells #[.pointer q0, .pointer q1, .pointer q2, .pointer q3, .pointer q4, .pointer q5, .pointer q6, .pointer q7, .pointer q8, .pointer q9, .pointer q10, .pointer q11, .pointer q12, .pointer q13, .pointer q14, .pointer q15] 48)).alloc (.cells #[.pointer q0, .pointer q1, .pointer q2, .pointer q3, .pointer q4, .pointer q5, .pointer q6, .pointer q7, .pointer q8, .pointer q9, .pointer q10, .pointer q11, .pointer q12, .pointer q13, .pointer q14, .pointer q15] 48) := by
  have h1 : ∀ o, Bal (W.alloc o) b ok [q1, q2, q3, q7, q8, q9] := fun o => h.turn (fun k _ hk => cell_alloc_old hk o) (by simp)
  have hc := fun o => ballot11 q0 q1 q2 q3 q4 q5 q6 q7 q8 q9 q10 q11 q12 q13 q14 q15 b ok (W.alloc o) (h1 o)
  clear h h1
  go_enter Try.func8, Try.ntmps8
  go_wp2_with fail
  refine (hc _).mono ?_
  rintro e w' ⟨rfl, rfl⟩
  go_wp2
  go_ret2
  exact ⟨rfl, rfl⟩
end Go.Proofs.Qxb6616038a
