/-
  'Kept S w w'': of what lay in w only the blocks of S may have turned. A walk that ends in steps of the machine of one.
-/
import Derived.Test.Qxb6614904aSort
import Derived.Test.Qxb6614904aLocks
import Derived.Conc.LoneSelect
import Derived.Conc.LoneCalls
import Derived.BigQuiet
import Derived.Deep.QuietTactic
import Derived.Deep.DeepCutAuto
import Derived.Deep.CutBlock
import Derived.Laws.CopyOwn
namespace Go.Proofs.Qxb6614904a
open Go.RowKit Go.Maps Go.Sort Go.Shelf

/-- Of what lay in w only the blocks of S may have turned. -/
structure Kept (S : List Nat) (w w' : World) : Prop where
  os : w'.os = w.os
  tape : w'.tape = w.tape
  output : w'.output = w.output
  size : w.heap.size ≤ w'.heap.size
  block : ∀ k, k < w.heap.size → k ∉ S → w'.heap[k]? = w.heap[k]?

theorem Kept.refl (S : List Nat) (w : World) : Kept S w w := ⟨rfl, rfl, rfl, Nat.le_refl _, fun _ _ _ => rfl⟩
theorem Kept.trans {S : List Nat} {a b c : World} (h : Kept S a b) (k : Kept S b c) : Kept S a c :=
  ⟨k.os.trans h.os, k.tape.trans h.tape, k.output.trans h.output, Nat.le_trans h.size k.size, fun i hi hS => (k.block i (Nat.lt_of_lt_of_le hi h.size) hS).trans (h.block i hi hS)⟩
theorem Kept.mono {S S' : List Nat} {a b : World} (h : Kept S a b) (hs : ∀ k ∈ S, k ∈ S') : Kept S' a b :=
  ⟨h.os, h.tape, h.output, h.size, fun i hi hS => h.block i hi (fun e => hS (hs i e))⟩
/-- What one that came later wrote into blocks that were not there at the beginning does not count. -/
theorem Kept.trans' {S T : List Nat} {a b c : World} (h : Kept S a b) (k : Kept T b c) (hT : ∀ k ∈ T, k ∈ S ∨ a.heap.size ≤ k) : Kept S a c :=
  ⟨k.os.trans h.os, k.tape.trans h.tape, k.output.trans h.output, Nat.le_trans h.size k.size, fun i hi hS => (k.block i (Nat.lt_of_lt_of_le hi h.size) (fun e => by
    rcases hT i e with h' | h'
    · exact hS h'
    · omega)).trans (h.block i hi hS)⟩
theorem Kept.of_below {S : List Nat} {a b : World} (h : Below a.heap.size a b) : Kept S a b := ⟨h.os, h.tape, h.output, h.size, fun k hk _ => h.block k hk⟩
theorem Kept.below {B : Nat} {S : List Nat} {w0 a b : World} (h : Kept S a b) (h0 : Below B w0 a) (hB : B ≤ a.heap.size) (hS : ∀ k ∈ S, B ≤ k) : Below B w0 b :=
  h0.trans ⟨h.os, h.tape, h.output, h.size, fun k hk => h.block k (by omega) (fun e => by have := hS k e; omega)⟩
theorem Kept.to_below {a b : World} (h : Kept [] a b) : Below a.heap.size a b := ⟨h.os, h.tape, h.output, h.size, fun k hk => h.block k hk (by simp)⟩
theorem Kept.alloc {S : List Nat} {a w : World} (h : Kept S a w) (o : Obj) : Kept S a (w.alloc o) :=
  h.trans ⟨rfl, rfl, rfl, by simp, fun k hk _ => Below.heap_alloc _ _ _ hk⟩
theorem Kept.drew {S : List Nat} {a w : World} (h : Kept S a w) : Kept S a w.drew := ⟨h.os, h.tape, h.output, h.size, h.block⟩
theorem Kept.drewN {S : List Nat} {a w : World} (h : Kept S a w) (n : Nat) : Kept S a (w.drewN n) := ⟨h.os, h.tape, h.output, h.size, h.block⟩
theorem Kept.setCell {S : List Nat} {a w : World} (h : Kept S a w) {p : Addr} (hp : p.block ∈ S ∨ a.heap.size ≤ p.block) (u : Value) : Kept S a (w.setCell p u) :=
  h.trans' (T := [p.block]) ⟨rfl, rfl, rfl, by simp [World.setCell], fun k hk hS => Below.heap_setCell _ _ _ _ (by simpa using hS)⟩ (by simpa using hp)
theorem Kept.cell {S : List Nat} {a w : World} (h : Kept S a w) {p : Addr} (hp : p.block < a.heap.size) (hS : p.block ∉ S) : w.cell? p = a.cell? p := World.cell?_of_block (w := a) (h.block p.block hp hS)
theorem Kept.frozen {S : List Nat} {a w : World} (h : Kept S a w) {p : Addr} (hp : p.block < a.heap.size) (hS : p.block ∉ S) : w.frozen? p = a.frozen? p := World.frozen?_of_block (w := a) (h.block p.block hp hS)
theorem Kept.grown {S : List Nat} {a w w' : World} {row : Option Nat} (h : Kept S a w) (hg : w.grownBy w' row) (hr : ∀ k, row = some k → k ∈ S ∨ a.heap.size ≤ k) : Kept S a w' :=
  h.trans' (T := row.toList) ⟨hg.os, hg.tape, hg.output, hg.size, fun k hk hS => hg.block k hk (fun e => hS (by rw [← e]; simp))⟩ (fun k hk => hr k (by simpa using hk))

/-! ### A walk that ends in steps of the machine of one -/
open Go.Conc in
theorem lone_seq {P : Program} {Q : Goroutine → World → Prop} {x y : Code} {b : Frame} {k : List Item} {cs : List Frame} {a : Act} {w : World}
    (h : ∀ K : Act → World → Prop, (∀ a w, LoneTo P Q (G (b.at a (.code y :: k)) cs) w → K a w) → x.wp P (Exit.then K (fun _ _ _ => False)) a w) :
    LoneTo P Q (G (b.at a (.code (.seq x y) :: k)) cs) w := by
  obtain ⟨e, a₁, w₁, hq, harr⟩ := h _ (fun _ _ h => h) b (.code y :: k) cs
  cases e with
  | normal =>
    obtain ⟨g', w', hs, hQ⟩ := hq
    exact ⟨g', w', Steps.trans (.head (by simpa [lone_eq_solo] using (step_seq (P := P) (b := b) (a := a) (k := k) (cs := cs) (w := w) (x := x) (y := y))) harr) hs, hQ⟩
  | exit id => exact hq.elim
  | goto l => exact hq.elim
  | ret => exact hq.elim
  | panic ch => exact hq.elim
  | outgrown => exact hq.elim

end Go.Proofs.Qxb6614904a
