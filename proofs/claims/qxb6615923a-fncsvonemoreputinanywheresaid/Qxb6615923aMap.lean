/-
  THE BUNDLE's MAP: two entries under two constant keys; csv, objects, ZZcsv, ZZnewBundle.
-/
import Derived.Test.Qxb6615923aScan
import Derived.MapKept
namespace Go.Proofs.Qxb6615923a
open Go.RowKit

theorem set_last (h : Array Obj) (o o' : Obj) : (h.push o).setIfInBounds h.size o' = h.push o' := by
  apply Array.ext_getElem?
  intro i
  by_cases e : i = h.size
  · subst e; simp
  · rw [Array.getElem?_setIfInBounds_ne (by omega)]
    simp [Array.getElem?_push, e]

theorem run_update_new (w : World) (es : Array MapEntry) (clock : Nat) (s : ByteArray) (val : Value) (hf : Instr.findNow .string (.string s) es.toList 0 = some none) :
    (Instr.mapUpdate 49 (.map (some w.heap.size)) (.string s) val).run Try.prog (w.alloc (.map es clock)) = .ok () (w.alloc (.map (es.push { key := .string s, val := val, born := clock }) (clock + 1))) := by
  have hb : (w.alloc (.map es clock)).heap[w.heap.size]? = some (.map es clock) := (MapKept.heap_alloc w _).1
  have hc : (Instr.checkKey false 10000 9 (.string s)).run Try.prog (w.alloc (.map es clock)) = .ok () (w.alloc (.map es clock)) := MapKept.run_checkKey (k := .string s) Try.underlying9 (by simp [MapKept.IsKey]) false 9999
  have he : ({ (w.alloc (.map es clock)) with heap := (w.alloc (.map es clock)).heap.setIfInBounds w.heap.size (.map (es.push { key := .string s, val := val, born := clock }) (clock + 1)) } : World) = w.alloc (.map (es.push { key := .string s, val := val, born := clock }) (clock + 1)) := by
    simp only [World.alloc, set_last]
  simp only [Instr.mapUpdate, Sem.run_bind, run_underlying Try.underlying49, MapKept.run_getObj_map hb, hc, MapKept.run_findKey Try.underlying9 hf, MapKept.run_setObj_map _ hb, Result.andThen, he]

theorem run_lookup_at (w : World) (b : Nat) (es : Array MapEntry) (clock i : Nat) (s : ByteArray) (v : Value) (hb : w.heap[b]? = some (.map es clock)) (hf : Instr.findNow .string (.string s) es.toList 0 = some (some (i, v))) :
    (Instr.lookup 49 (.map (some b)) (.string s) false).run Try.prog w = .ok v w := by
  have hc : (Instr.checkKey es.isEmpty 10000 9 (.string s)).run Try.prog w = .ok () w := MapKept.run_checkKey (k := .string s) Try.underlying9 (by simp [MapKept.IsKey]) _ 9999
  simp [Instr.lookup, Sem.run_bind, run_underlying Try.underlying49, MapKept.run_getObj_map hb, hc, MapKept.run_findKey Try.underlying9 hf, Result.andThen]

def kA : ByteArray := ⟨#[67, 108, 117, 115, 116, 101, 114, 83, 101, 114, 118, 105, 99, 101, 86, 101, 114, 115, 105, 111, 110]⟩
def kB : ByteArray := ⟨#[68, 101, 112, 108, 111, 121, 109, 101, 110, 116]⟩
def entries (v1 v2 : Value) : Array MapEntry := #[{ key := .string kA, val := v1, born := 0 }, { key := .string kB, val := v2, born := 1 }]

theorem find_none (v1 : Value) : Instr.findNow .string (.string kB) (#[{ key := .string kA, val := v1, born := 0 }] : Array MapEntry).toList 0 = some none := by
  have : (kB == kA) = false := by decide +kernel
  simp [Instr.findNow, Instr.sameNow, this]
theorem find_one (v1 v2 : Value) : Instr.findNow .string (.string kA) (entries v1 v2).toList 0 = some (some (0, v1)) := by
  have : (kA == kA) = true := by decide +kernel
  simp [Instr.findNow, Instr.sameNow, this, entries]

/-- The bundle's struct lies at block b, its map at block m. -/
def IsBundle (W : World) (b m : Nat) (v1 v2 : Value) : Prop := b < W.heap.size ∧ W.cell? ⟨b, 9, none⟩ = some (.map (some m)) ∧ W.heap[m]? = some (.map (entries v1 v2) 2)
def NewB (v1 v2 : Value) (e : Ending) (w' : World) : Prop := ∃ b m, e = .returned (.pointer (some ⟨b, 0, none⟩)) ∧ IsBundle w' b m v1 v2

set_option maxHeartbeats 1000000 in
theorem new16 (a1 : Option Addr) (len1 cap1 : Nat) (a2 : Option Addr) (len2 cap2 : Nat) (w : World) :
    Calls Try.prog 16 #[.slice a1 len1 cap1, .slice a2 len2 cap2] w fun e w' => NewB (.slice a1 len1 cap1) (.slice a2 len2 cap2) e w' ∧ Below w.heap.size w w' := by
  have hmm := @run_makeMap Try.prog
  have h1 := run_update_new w #[] 0 kA (.slice a1 len1 cap1) rfl
  have h2 := run_update_new w #[{ key := .string kA, val := .slice a1 len1 cap1, born := 0 }] 1 kB (.slice a2 len2 cap2) (find_none _)
  unfold kA at h1 h2
  unfold kB at h2
  go_enter Try.func16, Try.ntmps16
  go_wp2
  go_ret
  refine ⟨⟨w.heap.size + 1, w.heap.size, rfl, by simp, ?_, ?_⟩, below_more (below_more (Below.refl _ _) _) _⟩
  · rw [World.cell?_alloc_at _ _ _ _ (by simp)]; rfl
  · rw [Below.heap_alloc _ _ _ (by simp), (MapKept.heap_alloc w _).1]; rfl

theorem objects17 (W : World) (b m : Nat) (a : Option Addr) (len cap : Nat) (v2 : Value) (h : IsBundle W b m (.slice a len cap) v2) :
    Calls Try.prog 17 #[.pointer (some ⟨b, 0, none⟩), .string ⟨#[67, 108, 117, 115, 116, 101, 114, 83, 101, 114, 118, 105, 99, 101, 86, 101, 114, 115, 105, 111, 110]⟩] W fun e w' => e = .returned (.slice a len cap) ∧ w' = W := by
  obtain ⟨hb, hc, hm⟩ := h
  have hl := run_lookup_at W m _ 2 0 kA (.slice a len cap) hm (find_one _ _)
  unfold kA at hl
  clear hm
  go_enter Try.func17, Try.ntmps17
  go_wp2
  go_ret
  exact ⟨rfl, rfl⟩

theorem IsBundle.more {W : World} {b m : Nat} {v1 v2 : Value} (h : IsBundle W b m v1 v2) {W' : World} (hb : Below W.heap.size W W') : IsBundle W' b m v1 v2 := by
  obtain ⟨h1, h2, h3⟩ := h
  have hm : m < W.heap.size := (Array.getElem?_eq_some_iff.1 h3).1
  exact ⟨Nat.lt_of_lt_of_le h1 hb.size, (hb.cell (p := ⟨b, 9, none⟩) h1).trans h2, (hb.block m hm).trans h3⟩

set_option maxHeartbeats 1000000 in
theorem csv13_not (W : World) (b m : Nat) (a : Option Addr) (len cap : Nat) (v2 : Value) (h : IsBundle W b m (.slice a len cap) v2) (hl : ((len : Int) != 1) = true) :
    Calls Try.prog 13 #[.pointer (some ⟨b, 0, none⟩)] W fun e w' => e = .returned (.tuple #[.agg #[.string ⟨#[]⟩, .pointer none], .bool false]) ∧ Below W.heap.size W w' := by
  have ho : Hid (∀ o, Calls Try.prog 17 #[.pointer (some ⟨b, 0, none⟩), .string ⟨#[67, 108, 117, 115, 116, 101, 114, 83, 101, 114, 118, 105, 99, 101, 86, 101, 114, 115, 105, 111, 110]⟩] (W.alloc o) fun e w' => e = .returned (.slice a len cap) ∧ w' = W.alloc o) :=
    fun o => objects17 (W.alloc o) b m a len cap v2 (h.more (below_more (Below.refl _ _) o))
  clear h
  go_enter Try.func13, Try.ntmps13
  go_wp2_with fail
  refine (ho.out _).mono ?_
  rintro e w' ⟨rfl, rfl⟩
  clear ho
  go_wp2
  exact bodyPost_ret (v := .tuple #[.agg #[.string ⟨#[]⟩, .pointer none], .bool false]) (by simp [results, Try.results13, go_sem]) rfl ⟨rfl, below_more (Below.refl _ _) _⟩

set_option maxHeartbeats 1000000 in
theorem csv13_one (W : World) (b m g cap : Nat) (v2 : Value) (s : ByteArray) (p : Option Addr) (h : IsBundle W b m (.slice (some ⟨g, 0, none⟩) 1 cap) v2)
    (c0 : W.cell? ⟨g, 0, none⟩ = some (.string s)) (c1 : W.cell? ⟨g, 1, none⟩ = some (.pointer p)) (hg : g < W.heap.size) :
    Calls Try.prog 13 #[.pointer (some ⟨b, 0, none⟩)] W fun e w' => e = .returned (.tuple #[.agg #[.string s, .pointer p], .bool true]) ∧ Below W.heap.size W w' := by
  have ho : Hid (∀ o, Calls Try.prog 17 #[.pointer (some ⟨b, 0, none⟩), .string ⟨#[67, 108, 117, 115, 116, 101, 114, 83, 101, 114, 118, 105, 99, 101, 86, 101, 114, 115, 105, 111, 110]⟩] (W.alloc o) fun e w' => e = .returned (.slice (some ⟨g, 0, none⟩) 1 cap) ∧ w' = W.alloc o) :=
    fun o => objects17 (W.alloc o) b m _ 1 cap v2 (h.more (below_more (Below.refl _ _) o))
  clear h
  go_enter Try.func13, Try.ntmps13
  go_wp2_with fail
  refine (ho.out _).mono ?_
  rintro e w' ⟨rfl, rfl⟩
  clear ho
  go_wp2
  exact bodyPost_ret (v := .tuple #[.agg #[.string s, .pointer p], .bool true]) (by simp [results, Try.results13, go_sem]) rfl ⟨rfl, below_more (Below.refl _ _) _⟩

/-- What a callee leaves of the block that its caller made last. -/
theorem last_kept {W w1 : World} {c : Array Value} {t : TypeId} (hb : Below (W.alloc (.cells c t)).heap.size (W.alloc (.cells c t)) w1) :
    (∀ i, w1.cell? ⟨W.heap.size, i, none⟩ = c[i]?) ∧ (∀ i, w1.frozen? ⟨W.heap.size, i, none⟩ = false) ∧ W.heap.size < w1.heap.size ∧ Below W.heap.size W w1 := by
  have hs : (W.alloc (.cells c t)).heap.size = W.heap.size + 1 := by simp
  have hz := hb.size
  refine ⟨fun i => ?_, fun i => ?_, by omega, (below_more (Below.refl _ _) _).trans (hb.mono (by omega))⟩
  · rw [hb.cell (p := ⟨W.heap.size, i, none⟩) (by show W.heap.size < _; omega), World.cell?_alloc_at _ _ _ _ rfl]
  · rw [hb.frozen (p := ⟨W.heap.size, i, none⟩) (by show W.heap.size < _; omega), frozen?_alloc_cells]
    simp [World.frozen?]

set_option maxHeartbeats 1000000 in
theorem csv8 (W : World) (b : Nat) (s : ByteArray) (p : Option Addr) (ok : Bool)
    (h : ∀ o, Calls Try.prog 13 #[.pointer (some ⟨b, 0, none⟩)] (W.alloc o) fun e w' => e = .returned (.tuple #[.agg #[.string s, .pointer p], .bool ok]) ∧ Below (W.alloc o).heap.size (W.alloc o) w') :
    Calls Try.prog 8 #[.pointer (some ⟨b, 0, none⟩)] W fun e w' => e = .returned (.tuple #[.agg #[.string s, .pointer p], .bool ok]) ∧ Below W.heap.size W w' := by
  have H : Hid _ := h
  clear h
  go_enter Try.func8, Try.ntmps8
  go_wp2_with fail
  refine (show Calls _ _ _ _ _ from H.out _).mono ?_
  rintro e w1 ⟨rfl, hb⟩
  clear H
  obtain ⟨hc, hf, hs, hB⟩ := last_kept hb
  clear hb
  have c0 := hc 0; have c1 := hc 1; have f0 := hf 0; have f1 := hf 1
  clear hc hf
  simp at c0 c1
  go_wp2
  exact bodyPost_ret (v := .tuple #[.agg #[.string s, .pointer p], .bool ok]) (by simp [results, Try.results8, go_sem, c0, c1]) rfl ⟨rfl, (hB.setCell (Nat.le_refl _) _).setCell (Nat.le_refl _) _⟩
end Go.Proofs.Qxb6615923a
