/-
  THE MAP's KEYS: a pair (shard, num) as a struct of two cells; what it reads as; the plain layer of 'the keys, collected'.
-/
import Derived.Test.Qxb6614904aRows
import Derived.WideKeyArgs
import Derived.WideKeyEntry
import Derived.DeepKeys4
import Derived.MapViews
import Derived.Maps.Own
import Derived.Lib.SlKeysI
import Derived.KernelRfl
namespace Go.Proofs.Qxb6614904a
open Go.Maps

theorem laidOut : laidOutB Try.prog = true := by kernel_rfl
theorem row70 : (70 : TypeId) < Try.prog.types.size := of_decide_eq_true (by kernel_rfl)
theorem wide70 : (match Try.prog.underlying 70 with | some (.array _ _) | some (.struct _) => true | _ => false) = true := by rw [Try.underlying70]
theorem kta70 : Try.prog.keyTypeAt 2 70 = true := by kernel_rfl
set_option maxRecDepth 100000 in
theorem law70 : WideMaps.KeyLaw Try.prog 70 := deep_law_laid laidOut (m := 2) (by omega) row70 kta70 wide70
theorem keyed70 : Keyed Try.prog 70 := Keyed.of_law law70
theorem keyType70 : Try.prog.keyType 70 = true := by kernel_rfl
theorem cells70 : Try.prog.cellsOf 70 = 2 := by kernel_rfl
theorem cells3 : Try.prog.cellsOf 3 = 1 := by kernel_rfl
theorem cells22 : Try.prog.cellsOf 22 = 1 := by kernel_rfl

/-- A pair (shard, num) as a value. -/
def encP (x : Int × Int) : Value := .agg #[.int .i64 x.1, .int .u64 x.2]
def okP (x : Int × Int) : Prop := (Lit.int .i64 x.1).wf = true ∧ (Lit.int .u64 x.2).wf = true
/-- What it reads as. -/
def litP (x : Int × Int) : Lit := .string (keyBytes [.int .i64 x.1, .int .u64 x.2])

theorem encP_inj {x y : Int × Int} (h : encP x = encP y) : x = y := by
  simp [encP] at h
  exact Prod.ext h.1 h.2

/-- What the two laws below ask of the program. -/
structure PairKey (P : Program) : Prop where
  size : ∃ d, P.types.size = d + 1
  u70 : ∃ f0 f1 : Field, P.underlying 70 = some (.struct #[f0, f1]) ∧ f0.type = 3 ∧ f1.type = 22 ∧ f0.offset = 0 ∧ f1.offset = 1 ∧ f0.name ≠ "_" ∧ f1.name ≠ "_"
  u3 : P.underlying 3 = some (.int .i64)
  u22 : P.underlying 22 = some (.int .u64)
  kt : P.keyType 70 = true
  c70 : P.cellsOf 70 = 2
  c3 : P.cellsOf 3 = 1
  c22 : P.cellsOf 22 = 1

theorem keyOf_mk_gen {P : Program} (K : PairKey P) {x : Int × Int} (h : okP x) : keyOf P 70 (encP x) = some (litP x) := by
  obtain ⟨⟨d, hd⟩, ⟨f0, f1, hu, t0, t1, o0, o1, n0, n1⟩, hu3, hu22, kt, c70, c3, c22⟩ := K
  obtain ⟨h1, h2⟩ := h
  simp [keyOf, hu, kt, Value.formed, encP, c70, Value.cells, hd, Program.keyLits, c3, c22, hu3, hu22, h1, h2, litP, t0, t1, o0, o1, n0, n1]

theorem keyOf_inv_gen {P : Program} (K : PairKey P) {v : Value} {l : Lit} (h : keyOf P 70 v = some l) : ∃ x, v = encP x ∧ l = litP x ∧ okP x := by
  obtain ⟨⟨d, hd⟩, ⟨f0, f1, hu, t0, t1, o0, o1, n0, n1⟩, hu3, hu22, kt, c70, c3, c22⟩ := K
  cases v <;> simp [keyOf, hu, kt, Value.formed, c70] at h
  rename_i cs
  obtain ⟨hs, ls, hl, rfl⟩ := h
  obtain ⟨cs⟩ := cs
  match cs, hs with
  | [a, b], _ =>
    simp [Value.cells, hd, Program.keyLits, hu, c70, c3, c22, t0, t1, o0, o1, n0, n1, Option.bind_eq_some_iff, hu3, hu22] at hl
    obtain ⟨l1, h1, l2, ⟨l3, h2, rfl⟩, rfl⟩ := hl
    cases a <;> simp at h1
    cases b <;> simp at h2
    obtain ⟨⟨rfl, w1⟩, rfl⟩ := h1
    obtain ⟨⟨rfl, w2⟩, rfl⟩ := h2
    exact ⟨(_, _), rfl, rfl, w1, w2⟩

set_option maxRecDepth 100000 in
theorem pairKey : PairKey Try.prog := ⟨⟨Try.prog.types.size - 1, (Nat.succ_pred_eq_of_pos (Nat.lt_of_le_of_lt (Nat.zero_le _) row70)).symm⟩, ⟨_, _, Try.underlying70, rfl, rfl, rfl, rfl, by decide, by decide⟩, Try.underlying3, Try.underlying22, keyType70, cells70, cells3, cells22⟩
theorem keyOf_mk {x : Int × Int} (h : okP x) : keyOf Try.prog 70 (encP x) = some (litP x) := keyOf_mk_gen pairKey h
theorem keyOf_inv {v : Value} {l : Lit} (h : keyOf Try.prog 70 v = some l) : ∃ x, v = encP x ∧ l = litP x ∧ okP x := keyOf_inv_gen pairKey h

theorem litP_inj {x y : Int × Int} (hx : okP x) (hy : okP y) (h : litP x = litP y) : x = y :=
  encP_inj (keyed70.inj (keyOf_mk hx) (h ▸ keyOf_mk hy))
theorem isKeyP (x : Int × Int) : WideAt.IsKeyLit (litP x) := trivial
theorem same_litP {x y : Int × Int} (hx : okP x) (hy : okP y) : (litP x).sameKey (litP y) = true ↔ x = y :=
  ⟨fun h => litP_inj hx hy (WideAt.sameKey_eq h), fun h => h ▸ WideAt.sameKey_self (isKeyP x)⟩

/-- No key twice; a key is on the list just where the map has it and it is no longer to come. -/
def CollectedP {H : Type} (D0 : DataW H) (left : Lit → Bool) (ss : List (Int × Int)) : Prop :=
  ss.Nodup ∧ (∀ x ∈ ss, okP x) ∧ ∀ x, okP x → (x ∈ ss ↔ (has D0 (litP x) = true ∧ left (litP x) = false))

theorem CollectedP.start {H : Type} (D0 : DataW H) : CollectedP D0 (has D0) [] := ⟨List.nodup_nil, by simp, fun x _ => by cases has D0 (litP x) <;> simp⟩

theorem CollectedP.step {H : Type} {D0 : DataW H} {left : Lit → Bool} {ss : List (Int × Int)} (h : CollectedP D0 left ss) {x : Int × Int} (hx : okP x) {y : DataW H} (hlk : left (litP x) = true) (hat : ∀ zd, D0.atKey (litP x) zd = y) :
    CollectedP D0 (fun z => left z && !z.sameKey (litP x)) (ss ++ [x]) := by
  have hhas : has D0 (litP x) = true := has_true_of_atKey hat
  have hnew : x ∉ ss := fun hm => by have := ((h.2.2 x hx).1 hm).2; rw [hlk] at this; cases this
  refine ⟨List.nodup_append.2 ⟨h.1, by simp, fun a ha b hb => by simp at hb; subst hb; exact fun e => hnew (e ▸ ha)⟩, fun y hy => ?_, fun y hy => ?_⟩
  · rcases List.mem_append.1 hy with h' | h'
    · exact h.2.1 y h'
    · simp at h'; subst h'; exact hx
  · by_cases e : y = x
    · subst e
      simp [hhas, (same_litP hy hy).2 rfl]
    · have hs : (litP y).sameKey (litP x) = false := by
        cases hh : (litP y).sameKey (litP x)
        · rfl
        · exact absurd ((same_litP hy hx).1 hh) e
      simp [h.2.2 y hy, e, hs]

/-- The map at block b holds just the pairs of acc as keys. -/
def R0 : Value → Option (DataW Unit × List MemPlace) := fun _ => some (.nil, [])
def GoneMap (w : World) (b : Nat) (acc : List (Int × Int)) : Prop :=
  ∃ D n, w.ownsMap Try.prog 70 R0 b n D ∧ n ≤ acc.length ∧ ∀ x, okP x → (has D (litP x) = true ↔ x ∈ acc)

theorem GoneMap.lt {w : World} {b : Nat} {acc : List (Int × Int)} (h : GoneMap w b acc) : b < w.heap.size := by
  obtain ⟨D, n, h1, _⟩ := h
  exact h1.lt
theorem GoneMap.block {w w' : World} {b : Nat} {acc : List (Int × Int)} (h : GoneMap w b acc) (hb : w'.heap[b]? = w.heap[b]?) : GoneMap w' b acc := by
  obtain ⟨D, n, ⟨es, clock, h1, h2, h3, h4⟩, h5, h6⟩ := h
  exact ⟨D, n, ⟨es, clock, hb.trans h1, h2, h3, h4⟩, h5, h6⟩
theorem GoneMap.made (w : World) : GoneMap (w.alloc (.map #[] 0)) w.heap.size [] :=
  ⟨.map [], 0, World.ownsMap_made w _ _ _, Nat.le_refl _, fun x _ => by simp [has_eq]⟩
/-- One pair more. -/
theorem GoneMap.put {w' : World} {b n : Nat} {D : DataW Unit} {acc : List (Int × Int)} {x : Int × Int} (hx : okP x) (h : w'.ownsMap Try.prog 70 R0 b (n + 1) (D.put (litP x) .nil)) (hm : IsMap D) (hn : n ≤ acc.length)
    (hD : ∀ x, okP x → (has D (litP x) = true ↔ x ∈ acc)) : GoneMap w' b (acc ++ [x]) := by
  refine ⟨_, n + 1, h, by simp; omega, fun y hy => ?_⟩
  by_cases e : y = x
  · subst e
    simp [has_put_same hm (isKeyP y)]
  · rw [has_put_other (fun e' => e (litP_inj hy hx e')), hD y hy]
    simp [e]
theorem GoneMap.isMap {w : World} {b n : Nat} {D : DataW Unit} (h : w.ownsMap Try.prog 70 R0 b n D) : IsMap D := by
  obtain ⟨es, clock, _, _, _, rfl⟩ := h
  exact ⟨_, rfl⟩
end Go.Proofs.Qxb6614904a
