/-
  WHAT THE MAIN WALK CARRIES: the state, what is published, the views, the rows of its own.
-/
import Derived.Test.Qxb6614904aPub
namespace Go.Proofs.Qxb6614904a
open Go.RowKit Go.Maps

/-- The state, its two maps, and what lay before the call. -/
structure Run (w0 w : World) (b cm gm : Nat) (num : Int) (sl v0 v1 v2 v3 v4 : Value) (acc : List (Int × Int)) : Prop where
  st : St w b cm gm num sl v0 v1 v2 v3 v4
  cmap : w.heap[cm]? = some (.map #[] 0)
  gone : GoneMap w gm acc
  bel : Below w0.heap.size w0 w
  lb : w0.heap.size ≤ b
  lc : w0.heap.size ≤ cm
  lg : w0.heap.size ≤ gm
  bc : b ≠ cm
  bg : b ≠ gm
  cg : cm ≠ gm

theorem Run.kept {w0 w w' : World} {b cm gm : Nat} {num : Int} {sl v0 v1 v2 v3 v4 : Value} {acc : List (Int × Int)} {S : List Nat} (h : Run w0 w b cm gm num sl v0 v1 v2 v3 v4 acc) (hk : Kept S w w') (hb : b ∉ S) (hc : cm ∉ S) (hg : gm ∉ S) (hS : ∀ k ∈ S, w0.heap.size ≤ k) :
    Run w0 w' b cm gm num sl v0 v1 v2 v3 v4 acc :=
  ⟨h.st.kept hk hb, (hk.block cm (Array.getElem?_eq_some_iff.1 h.cmap).1 hc).trans h.cmap, h.gone.block (hk.block gm h.gone.lt hg), hk.below h.bel h.bel.size hS, h.lb, h.lc, h.lg, h.bc, h.bg, h.cg⟩

/-- One pair more is gone. -/
theorem Run.put {w0 w w' : World} {b cm gm : Nat} {num : Int} {sl v0 v1 v2 v3 v4 : Value} {acc acc' : List (Int × Int)} (h : Run w0 w b cm gm num sl v0 v1 v2 v3 v4 acc) (hk : Kept [gm] w w') (hg : GoneMap w' gm acc') : Run w0 w' b cm gm num sl v0 v1 v2 v3 v4 acc' :=
  ⟨h.st.kept hk (by simpa using h.bg), (hk.block cm (Array.getElem?_eq_some_iff.1 h.cmap).1 (by simpa using h.cg)).trans h.cmap, hg, hk.below h.bel h.bel.size (by simpa using h.lg), h.lb, h.lc, h.lg, h.bc, h.bg, h.cg⟩
/-- The state's view is another. -/
theorem Run.view {w0 w w' : World} {b cm gm : Nat} {num : Int} {sl v0 v1 v2 v3 v4 u0 u1 u2 u3 u4 : Value} {acc : List (Int × Int)} (h : Run w0 w b cm gm num sl v0 v1 v2 v3 v4 acc) (hk : Kept [b] w w') (hs : St w' b cm gm num sl u0 u1 u2 u3 u4) : Run w0 w' b cm gm num sl u0 u1 u2 u3 u4 acc :=
  ⟨hs, (hk.block cm (Array.getElem?_eq_some_iff.1 h.cmap).1 (by simpa using Ne.symm h.bc)).trans h.cmap, h.gone.block (hk.block gm h.gone.lt (by simpa using Ne.symm h.bg)), hk.below h.bel h.bel.size (by simpa using h.lb), h.lb, h.lc, h.lg, h.bc, h.bg, h.cg⟩

/-- What has been published: a slice rv in a block from B on that holds L. -/
structure Done (w0 w : World) (b cm gm B : Nat) (rv : Value) (L acc : List (Int × Int)) : Prop where
  asc : Asc L
  mem : ∀ x, x ∈ L ↔ x ∈ acc
  row : w.ownsRow B 70 2 rv L.length (flatP L)
  lo : w0.heap.size ≤ B
  b : b < B
  c : cm < B
  g : gm < B
theorem Done.kept {w0 w w' : World} {b cm gm B : Nat} {rv : Value} {L acc : List (Int × Int)} {S : List Nat} (h : Done w0 w b cm gm B rv L acc) (hk : Kept S w w') (hS : ∀ k ∈ S, k < B) : Done w0 w' b cm gm B rv L acc := ⟨h.asc, h.mem, ownsRow_kept h.row hk hS, h.lo, h.b, h.c, h.g⟩

theorem ownsRow_form {w : World} {base : Nat} {e : TypeId} {size : Nat} {v : Value} {n : Nat} {xs : List Value} (h : w.ownsRow base e size v n xs) : ∃ x c, v = .slice x n c := by
  rcases h.2 with ⟨rfl, rfl⟩ | ⟨g, cap, cur, rfl, _⟩ <;> exact ⟨_, _, rfl⟩
theorem flatP_even : ∀ (L : List (Int × Int)) (i : Nat), i < L.length → (flatP L)[i * 2]? = some (.int .i64 (L.getD i (0, 0)).1) ∧ (flatP L)[i * 2 + 1]? = some (.int .u64 (L.getD i (0, 0)).2)
  | [], i, h => by simp at h
  | x :: r, 0, _ => by simp [flatP]
  | x :: r, i + 1, h => by
    have e : flatP (x :: r) = .int .i64 x.1 :: .int .u64 x.2 :: flatP r := rfl
    have ih := flatP_even r i (by simpa using h)
    rw [e, show (i + 1) * 2 = i * 2 + 2 by omega, show i * 2 + 2 + 1 = (i * 2 + 1) + 2 by omega]
    simpa using ih
theorem Done.at {w0 w : World} {b cm gm B : Nat} {x : Option Addr} {n c : Nat} {L acc : List (Int × Int)} (h : Done w0 w b cm gm B (.slice x n c) L acc) {i : Nat} (hi : i < L.length) :
    ∃ g, x = some ⟨g, 0, none⟩ ∧ g < w.heap.size ∧ w.cell? ⟨g, i * 2, none⟩ = some (.int .i64 (L.getD i (0, 0)).1) ∧ w.cell? ⟨g, i * 2 + 1, none⟩ = some (.int .u64 (L.getD i (0, 0)).2) := by
  rcases h.row.2 with ⟨_, h0⟩ | ⟨g, cap, cur, he, hb, hh, h1, h2, h3, h4⟩
  · omega
  · cases he
    refine ⟨g, rfl, (Array.getElem?_eq_some_iff.1 hh).1, ?_, ?_⟩
    · have := (flatP_even L i hi).1
      rw [← h4, List.getElem?_take_of_lt (by omega), Array.getElem?_toList] at this
      simpa [World.cell?, hh] using this
    · have := (flatP_even L i hi).2
      rw [← h4, List.getElem?_take_of_lt (by omega), Array.getElem?_toList] at this
      simpa [World.cell?, hh] using this

/-- A view laid in a block of its own. -/
structure Vw (w0 w : World) (p b cm gm : Nat) (v0 v1 v2 v3 v4 : Value) : Prop where
  lt : p < w.heap.size
  lo : w0.heap.size ≤ p
  nb : p ≠ b
  ng : p ≠ gm
  c0 : w.cell? ⟨p, 0, none⟩ = some v0
  c1 : w.cell? ⟨p, 1, none⟩ = some v1
  c2 : w.cell? ⟨p, 2, none⟩ = some v2
  c3 : w.cell? ⟨p, 3, none⟩ = some v3
  c4 : w.cell? ⟨p, 4, none⟩ = some v4
theorem Vw.kept {w0 w w' : World} {p b cm gm : Nat} {v0 v1 v2 v3 v4 : Value} {S : List Nat} (h : Vw w0 w p b cm gm v0 v1 v2 v3 v4) (hk : Kept S w w') (hS : p ∉ S) : Vw w0 w' p b cm gm v0 v1 v2 v3 v4 :=
  ⟨Nat.lt_of_lt_of_le h.lt hk.size, h.lo, h.nb, h.ng, (hk.cell (p := ⟨p, 0, none⟩) h.lt hS).trans h.c0, (hk.cell (p := ⟨p, 1, none⟩) h.lt hS).trans h.c1, (hk.cell (p := ⟨p, 2, none⟩) h.lt hS).trans h.c2, (hk.cell (p := ⟨p, 3, none⟩) h.lt hS).trans h.c3, (hk.cell (p := ⟨p, 4, none⟩) h.lt hS).trans h.c4⟩
theorem Vw.made {w0 w : World} {b cm gm : Nat} {v0 v1 v2 v3 v4 : Value} (h0 : w0.heap.size ≤ w.heap.size) (hb : b < w.heap.size) (hg : gm < w.heap.size) : Vw w0 (w.alloc (.cells #[v0, v1, v2, v3, v4] 37)) w.heap.size b cm gm v0 v1 v2 v3 v4 :=
  ⟨by simp, h0, by omega, by omega, new_cell _ _ _ _, new_cell _ _ _ _, new_cell _ _ _ _, new_cell _ _ _ _, new_cell _ _ _ _⟩

theorem heap_setCell_at {w : World} {g k : Nat} {cur : Array Value} {e : TypeId} {v : Value} (h : w.heap[g]? = some (.cells cur e (0, 0))) : (w.setCell ⟨g, k, none⟩ v).heap[g]? = some (.cells (cur.setIfInBounds k v) e (0, 0)) := by
  rw [Sort.setCell_eq]
  simp [Sort.mapBlock, Array.getElem?_modify, h, Sort.onCells]
/-- A row of the call's own: N cells, the first k of which are the f's of L's pairs. -/
structure Row (w0 w : World) (q : IntKind) (e : TypeId) (f : Int × Int → Int) (g N k : Nat) (L : List (Int × Int)) : Prop where
  lo : w0.heap.size ≤ g
  blk : ∃ cur : List Value, w.heap[g]? = some (.cells cur.toArray e (0, 0)) ∧ cur.length = N ∧ ∀ i, i < k → cur[i]? = some (.int q (f (L.getD i (0, 0))))
theorem Row.set {w0 w : World} {q : IntKind} {e : TypeId} {f : Int × Int → Int} {g N k : Nat} {L : List (Int × Int)} (h : Row w0 w q e f g N k L) (hk : k < N) {y : Int} (hy : y = f (L.getD k (0, 0))) : Row w0 (w.setCell ⟨g, k, none⟩ (.int q y)) q e f g N (k + 1) L := by
  obtain ⟨cur, h1, h2, h3⟩ := h.blk
  refine ⟨h.lo, cur.set k (.int q y), by rw [heap_setCell_at h1]; simp, by simpa using h2, fun i hi => ?_⟩
  by_cases e : i = k
  · subst e; rw [List.getElem?_set_self (by omega), hy]
  · rw [List.getElem?_set_ne (Ne.symm e)]; exact h3 i (by omega)
theorem Row.at {w0 w : World} {q : IntKind} {e : TypeId} {f : Int × Int → Int} {g N k : Nat} {L : List (Int × Int)} (h : Row w0 w q e f g N k L) {i : Nat} (hi : i < k) : w.cell? ⟨g, i, none⟩ = some (.int q (f (L.getD i (0, 0)))) := by
  obtain ⟨cur, h1, _, h3⟩ := h.blk
  simpa [World.cell?, h1] using h3 i hi
theorem Row.room {w0 w : World} {q : IntKind} {e : TypeId} {f : Int × Int → Int} {g N k : Nat} {L : List (Int × Int)} (h : Row w0 w q e f g N k L) {i : Nat} (hi : i < N) : (∃ v, w.cell? ⟨g, i, none⟩ = some v) ∧ w.frozen? ⟨g, i, none⟩ = false := by
  obtain ⟨cur, h1, h2, _⟩ := h.blk
  have : i < cur.length := by omega
  exact ⟨⟨cur[i], by simp [World.cell?, h1, this]⟩, by simp [World.frozen?, h1]⟩
theorem Row.lt {w0 w : World} {q : IntKind} {e : TypeId} {f : Int × Int → Int} {g N k : Nat} {L : List (Int × Int)} (h : Row w0 w q e f g N k L) : g < w.heap.size := by
  obtain ⟨cur, h1, _⟩ := h.blk
  exact (Array.getElem?_eq_some_iff.1 h1).1
theorem Row.made {w0 w : World} {q : IntKind} {e : TypeId} {f : Int × Int → Int} {base g N : Nat} {L : List (Int × Int)} {xs : List Value} (h : w.ownsRow base e 1 (.slice (some ⟨g, 0, none⟩) N N) N xs) (h0 : w0.heap.size ≤ base) : Row w0 w q e f g N 0 L := by
  obtain ⟨cur, h1, h2, h3⟩ := made_block h
  exact ⟨by omega, cur, h1, h2, fun i hi => by omega⟩
theorem Row.kept {w0 w w' : World} {q : IntKind} {e : TypeId} {f : Int × Int → Int} {g N k : Nat} {L : List (Int × Int)} {S : List Nat} (h : Row w0 w q e f g N k L) (hk : Kept S w w') (hS : g ∉ S) : Row w0 w' q e f g N k L := by
  obtain ⟨cur, h1, h2, h3⟩ := h.blk
  exact ⟨h.lo, cur, (hk.block g (Array.getElem?_eq_some_iff.1 h1).1 hS).trans h1, h2, h3⟩

/-- At the end: true, and nothing that lay has turned. -/
def Fin (w0 : World) (Q : Exit → Act → World → Prop) : Prop := ∀ a w', a.defers = [] → a.tmps.getD 12 undef = .bool true → Below w0.heap.size w0 w' → Q .ret a w'
end Go.Proofs.Qxb6614904a
