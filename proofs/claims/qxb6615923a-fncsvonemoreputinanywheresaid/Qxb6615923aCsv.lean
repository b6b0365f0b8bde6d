/-
  ZZcsv OF A BUNDLE: what it answers by the number of CSVs; the slices csvPaths[:cut] and csvPaths[cut:].
-/
import Derived.Test.Qxb6615923aBundle
namespace Go.Proofs.Qxb6615923a
open Go.RowKit

/-- Is there just one? -/
def lenB (n : Nat) : Bool := decide (n = 1)
/-- The object that ZZcsv hands back. -/
def Was (ss : List ByteArray) (len : Nat) (s : ByteArray) (p : Option Addr) : Prop := (len = 1 ∧ s = ss.getD 0 ByteArray.empty ∧ ∃ a, p = some a) ∨ (len ≠ 1 ∧ s = ⟨#[]⟩ ∧ p = none)
def CsvEnd (ss : List ByteArray) (len : Nat) (e : Ending) : Prop := ∃ s p, e = .returned (.tuple #[.agg #[.string s, .pointer p], .bool (lenB len)]) ∧ Was ss len s p

theorem csv_any (ss : List ByteArray) (W : World) (b m : Nat) (x : Option Addr) (len c : Nat) (v2 : Value) (hB : IsBundle W b m (.slice x len c) v2)
    (h1 : len = 1 → ∃ g a, x = some ⟨g, 0, none⟩ ∧ g < W.heap.size ∧ W.cell? ⟨g, 0, none⟩ = some (.string (ss.getD 0 ByteArray.empty)) ∧ W.cell? ⟨g, 1, none⟩ = some (.pointer (some a))) :
    Calls Try.prog 8 #[.pointer (some ⟨b, 0, none⟩)] W fun e w' => CsvEnd ss len e ∧ Below W.heap.size W w' := by
  by_cases hl : len = 1
  · subst hl
    obtain ⟨g, a, rfl, hg, c0, c1⟩ := h1 rfl
    refine (csv8 W b (ss.getD 0 ByteArray.empty) (some a) true fun o => ?_).mono fun e w' ⟨he, hb⟩ => ⟨⟨_, _, he, Or.inl ⟨rfl, rfl, a, rfl⟩⟩, hb⟩
    have hb := below_more (Below.refl _ W) o
    exact csv13_one (W.alloc o) b m g c v2 _ _ (hB.more hb) ((hb.cell (p := ⟨g, 0, none⟩) hg).trans c0) ((hb.cell (p := ⟨g, 1, none⟩) hg).trans c1) (Nat.lt_of_lt_of_le hg hb.size)
  · refine (csv8 W b ⟨#[]⟩ none false fun o => ?_).mono fun e w' ⟨he, hb⟩ => ⟨⟨_, _, by rw [he]; simp [lenB, hl], Or.inr ⟨hl, rfl, rfl⟩⟩, hb⟩
    have hb := below_more (Below.refl _ W) o
    exact csv13_not (W.alloc o) b m x len c v2 (hB.more hb) (by rw [bne_iff_ne]; omega)

/-- The object lies in block k. -/
def Holds1 (W : World) (k : Nat) (s : ByteArray) (p : Option Addr) : Prop := k < W.heap.size ∧ W.cell? ⟨k, 0, none⟩ = some (.string s) ∧ W.cell? ⟨k, 1, none⟩ = some (.pointer p)
theorem Holds1.later {W W' : World} {k : Nat} {s : ByteArray} {p : Option Addr} (h : Holds1 W k s p) (hb : Below W.heap.size W W') : Holds1 W' k s p :=
  ⟨Nat.lt_of_lt_of_le h.1 hb.size, (hb.cell (p := ⟨k, 0, none⟩) h.1).trans h.2.1, (hb.cell (p := ⟨k, 1, none⟩) h.1).trans h.2.2⟩
theorem Holds1.new (W : World) (s : ByteArray) (p : Option Addr) : Holds1 (W.alloc (.cells #[.string s, .pointer p] 29)) W.heap.size s p :=
  ⟨by simp, by rw [World.cell?_alloc_at _ _ _ _ rfl]; rfl, by rw [World.cell?_alloc_at _ _ _ _ rfl]; rfl⟩

theorem run_slice_to (a : Option Addr) (len cap c : Nat) (hc : c ≤ cap) (w : World) : (Instr.slice 22 (.slice a len cap) none (some (.int .i64 c)) none).run Try.prog w = .ok (.slice a c cap) w := by
  have hz : (Go.sizeOf 9).run Try.prog w = .ok 1 w := by kernel_rfl
  have hb : (Instr.sliceBound (.int .i64 (c : Int)) cap .sliceAcap).run Try.prog w = .ok c w := by
    have := run_sliceBound (P := Try.prog) w .i64 (c : Int) cap .sliceAcap (by omega) (by omega)
    simpa using this
  have ha : a.map (fun x => x.add 0) = a := by cases a <;> simp [Addr.add]
  simp [Instr.slice, Sem.run_bind, run_underlying Try.underlying22, Instr.sliceBounds, hb, Result.andThen, hz, ha]

theorem run_slice_from (a : Option Addr) (len cap c : Nat) (hc : c ≤ len) (w : World) : (Instr.slice 22 (.slice a len cap) (some (.int .i64 c)) none none).run Try.prog w = .ok (.slice (if cap = c then a else a.map (·.add c)) (len - c) (cap - c)) w := by
  have hz : (Go.sizeOf 9).run Try.prog w = .ok 1 w := by kernel_rfl
  have hb : (Instr.sliceBound (.int .i64 (c : Int)) len .sliceB).run Try.prog w = .ok c w := by
    have := run_sliceBound (P := Try.prog) w .i64 (c : Int) len .sliceB (by omega) (by omega)
    simpa using this
  simp [Instr.slice, Sem.run_bind, run_underlying Try.underlying22, Instr.sliceBounds, hb, Result.andThen, hz]

theorem Row.take {w : World} {a : Option Addr} {len : Nat} {ss : List ByteArray} (h : Row w a len ss) (c : Nat) (hc : c ≤ len) : Row w a c (ss.take c) := by
  have hl := h.count
  refine ⟨by simp; omega, by have := h.small; omega, fun s hs => h.size s (List.mem_of_mem_take hs), fun hp => ?_⟩
  obtain ⟨b, off, ha, hb, hcell⟩ := h.cells (by omega)
  refine ⟨b, off, ha, hb, fun i hi => ?_⟩
  rw [hcell i (by omega), List.getD_eq_getElem?_getD, List.getD_eq_getElem?_getD, List.getElem?_take_of_lt hi]

theorem Row.drop {w : World} {a : Option Addr} {len : Nat} {ss : List ByteArray} (h : Row w a len ss) (cap c : Nat) (hcap : len ≤ cap) (hc : c ≤ len) : Row w (if cap = c then a else a.map (·.add c)) (len - c) (ss.drop c) := by
  have hl := h.count
  refine ⟨by simp; omega, by have := h.small; omega, fun s hs => h.size s (List.mem_of_mem_drop hs), fun hp => ?_⟩
  obtain ⟨b, off, ha, hb, hcell⟩ := h.cells (by omega)
  rw [if_neg (by omega), ha]
  refine ⟨b, off + c, by simp only [Option.map_some]; rw [Go.WideShapes.add_plain], hb, fun i hi => ?_⟩
  rw [Nat.add_assoc, hcell (c + i) (by omega), List.getD_eq_getElem?_getD, List.getD_eq_getElem?_getD, List.getElem?_drop]
end Go.Proofs.Qxb6615923a
