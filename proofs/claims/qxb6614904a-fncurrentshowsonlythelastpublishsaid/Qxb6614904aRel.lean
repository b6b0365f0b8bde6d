/-
  (*shardedState).releases: the map's keys, sorted by (num, shard); slices.Sorted(maps.Keys(m)) at an int map that holds nothing.
-/
import Derived.Test.Qxb6614904aPairs
import Derived.Test.Qxb6614904aLaid
import Derived.Shelf.SlSortCmp.NoneTotal
import Derived.Maps.OwnSet
namespace Go.Proofs.Qxb6614904a
open Go.RowKit Go.Maps Go.Sort Go.Shelf

def ltP (x y : Int × Int) : Prop := x.2 < y.2 ∨ (x.2 = y.2 ∧ x.1 < y.1)
def Asc (L : List (Int × Int)) : Prop := L.Pairwise ltP

theorem asc_of_sorted {ss : List (Int × Int)} {d' : Array (Int × Int)} (hnd : ss.Nodup) (hp : PermIn 0 ss.length ss.toArray d') (hs : SortedIn (ltOf cmpP) 0 ss.length d') :
    d'.toList.Perm ss ∧ Asc d'.toList := by
  obtain ⟨h1, _, h3⟩ := hp
  have hsz : d'.size = ss.length := by simpa using h1
  have hperm : d'.toList.Perm ss := by
    have e1 : (d'.extract 0 ss.length).toList = d'.toList := by rw [← hsz]; simp
    have e2 : (ss.toArray.extract 0 ss.length).toList = ss := by simp
    rw [e1, e2] at h3
    exact h3
  refine ⟨hperm, List.pairwise_iff_getElem.2 fun i j hi hj hij => ?_⟩
  have hnd' : d'.toList.Nodup := hperm.nodup_iff.2 hnd
  have hi' : i < d'.size := by simpa using hi
  have hj' : j < d'.size := by simpa using hj
  have h := hs i j (Nat.zero_le _) hij (by omega)
  rw [getElem!_pos d' i hi', getElem!_pos d' j hj'] at h
  have hne : d'.toList[i] ≠ d'.toList[j] := (List.pairwise_iff_getElem.1 hnd') i j hi hj hij
  simp only [Array.getElem_toList] at hne ⊢
  have hn : ¬ (d'[j].2 < d'[i].2 ∨ (d'[j].2 = d'[i].2 ∧ d'[j].1 < d'[i].1)) := fun e => by
    rw [(lt_iff _ _).2 e] at h; cases h
  by_cases e2 : d'[i].2 = d'[j].2
  · by_cases e1 : d'[i].1 = d'[j].1
    · exact absurd (Prod.ext e1 e2) hne
    · right; exact ⟨e2, by omega⟩
  · left; omega

/-- What releases hands back: a slice of the call's own that holds acc's pairs, each once, ascending. -/
def RelOut (acc : List (Int × Int)) (w : World) (e : Ending) (w' : World) : Prop :=
  ∃ (v : Value) (L : List (Int × Int)), e = .returned v ∧ Asc L ∧ (∀ x, x ∈ L ↔ x ∈ acc) ∧ w'.ownsRow w.heap.size 70 2 v L.length (flatP L) ∧ Below w.heap.size w w'

theorem sort41 (blk cap : Nat) (ss : List (Int × Int)) (w : World) (hnd : ss.Nodup) (hH : HoldsK cellsP 2 w blk 0 ss.toArray) (hblk : blk < w.heap.size) (hsz : ss.length < 4611686018427387904) :
    Calls Try.prog 41 #[.slice (some ⟨blk, 0, none⟩) ss.length cap, .func (.func 29) #[] #[]] w fun e w' => e = .returned (.tuple #[]) ∧ ∃ ts n os, ts.Perm ss ∧ Asc ts ∧ w' = sortWorldK cellsP 2 w blk 0 n ts.toArray os := by
  have h := AnyQ.slices_SortFunc Try.sortPair 2 Try.isAgg70 Try.sizeOf70 cellsP (fun _ => rfl) (fun x v hv => by simp [cellsP] at hv; rcases hv with rfl | rfl <;> rfl) cmpP swoP 29 #[] blk 0 cap ss.toArray w (enters_of Try.func29 (by kernel_rfl) rfl) (cmpLays29 _ _ _ _) hH hblk (by simpa using hsz)
  refine h.mono ?_
  rintro e w' ⟨he, d', n, os, hp, hs, hw⟩
  obtain ⟨h1, h2⟩ := asc_of_sorted hnd (by simpa using hp) (by simpa using hs)
  exact ⟨he, d'.toList, n, os, h1, h2, by simpa using hw⟩

theorem sort41_none (p : Option Addr) (cap : Nat) (fv : Value) (w : World) : Calls Try.prog 41 #[.slice p 0 cap, fv] w fun e w' => e = .returned (.tuple #[]) ∧ w' = w :=
  AnyF.slices_SortFunc_none Try.sortPair p cap fv w

set_option maxHeartbeats 1000000 in
theorem sorted27 (Bm b nn : Nat) (D : DataW Unit) (acc : List (Int × Int)) (w : World) (hBm : Bm < w.heap.size) (hm : w.cell? ⟨Bm, 0, none⟩ = some (.map (some b))) (hown : w.ownsMap Try.prog 70 R0 b nn D) (hn : nn ≤ acc.length) (ha : acc.length ≤ 8192)
    (hok : ∀ x ∈ acc, okP x) (hD : ∀ x, okP x → (has D (litP x) = true ↔ x ∈ acc)) :
    Calls Try.prog 27 #[.func (.func 42) #[] #[.pointer (some ⟨Bm, 0, none⟩)], .func (.func 29) #[] #[]] w fun e w' => RelOut acc w e w' := by
  have hs : Maps.size D ≤ 8192 := Nat.le_trans hown.size_le (by omega)
  have hseq := keys_gives Fence.wide 2 trivial rfl (by omega) Bm b nn D w hBm hm hown
  have hcol : Hid _ := (callsIn_wide (n := 4)).1 (collect_in Fence.wide 4 trivial trivial rfl (by omega) 42 #[.pointer (some ⟨Bm, 0, none⟩)] trivial (enters_of Try.func42 (by kernel_rfl) rfl) _ _ (by unfold maxLen; omega) (by omega) w hseq)
  clear hseq
  go_enter Try.func27, Try.ntmps27
  go_wp2_with fail
  refine (show Calls _ _ _ _ _ from hcol.out).mono ?_
  rintro e W ⟨v, ss, rfl, hC, hrow, hnil, hb⟩
  have hmem : ∀ x, x ∈ ss ↔ x ∈ acc := fun x => by
    constructor
    · intro h
      have ho := hC.2.1 x h
      exact (hD x ho).1 ((hC.2.2 x ho).1 h).1
    · intro h
      have ho := hok x h
      exact (hC.2.2 x ho).2 ⟨(hD x ho).2 h, rfl⟩
  have hnd := hC.1
  clear hC hcol hown hD
  rcases hrow.2 with ⟨rfl, hz⟩ | ⟨gb, cap, cur, rfl, hbase, hgb, r1, r2, r3, r4⟩
  · have hss : ss = [] := List.eq_nil_of_length_eq_zero hz
    subst hss
    go_wp2_with fail
    refine (sort41_none none 0 _ _).mono ?_
    rintro e w' ⟨rfl, rfl⟩
    go_wp2
    go_ret
    exact ⟨.slice none 0 0, [], rfl, List.Pairwise.nil, hmem, hrow, hb⟩
  · have hH : HoldsK cellsP 2 W gb 0 ss.toArray := by
      show Sort.Holds id W gb 0 _
      rw [flatK_eq]
      exact holds_of_block_p hgb (by rw [flatP_length]; exact r4)
    have hgl : gb < W.heap.size := (Array.getElem?_eq_some_iff.1 hgb).1
    have hsz : ss.length < 4611686018427387904 := by have := len_dcount acc ss hnd hmem; have := dcount_le acc; omega
    have cS : Hid _ := sort41 gb cap ss W hnd hH hgl hsz
    clear hH
    go_wp2_with fail
    refine (show Calls _ _ _ _ _ from cS.out).mono ?_
    rintro e w' ⟨rfl, ts, nn', os, hp, hA, rfl⟩
    go_wp2
    go_ret
    have hl : ts.length = ss.length := hp.length_eq
    refine ⟨_, ts, rfl, hA, fun x => (hp.mem_iff).trans (hmem x), ?_, hb.grown (grownBy_sortK _) hb.size (fun j hj => by cases hj; exact hbase)⟩
    have := ownsRow_sorted_p (n := nn') (os := os) (ts := ts) hbase hgb (by omega) r2 r3
    rw [hl] at this ⊢
    exact this

set_option maxHeartbeats 1000000 in
theorem releases20 (b gm : Nat) (acc : List (Int × Int)) (w : World) (hg : w.cell? ⟨b, 7, none⟩ = some (.map (some gm))) (hm : GoneMap w gm acc) (ha : acc.length ≤ 8192) (hok : ∀ x ∈ acc, okP x) :
    Calls Try.prog 20 #[.pointer (some ⟨b, 0, none⟩)] w fun e w' => RelOut acc w e w' := by
  obtain ⟨D, n, hown, hn, hD⟩ := hm
  have hK : Hid _ := (callsIn_wide (n := 4)).1 (keys_in Fence.wide 4 trivial rfl (some gm) w)
  have hS : Hid _ := sorted27 w.heap.size gm n D acc (w.alloc (.cells #[.map (some gm)] 46)) (by simp) (by simp) (hown.alloc _) hn ha hok hD
  clear hown hD
  go_enter Try.func20, Try.ntmps20
  go_wp2_with fail
  refine (show Calls _ _ _ _ _ from hK.out).mono ?_
  rintro e w' ⟨rfl, rfl⟩
  go_wp2_with fail
  refine (show Calls _ _ _ _ _ from hS.out).mono ?_
  rintro e w' ⟨v, L, rfl, hA, hmem, hrow, hbel⟩
  go_wp2
  go_ret
  exact ⟨v, L, rfl, hA, hmem, ownsRow_base_a hrow (by simp), ((Below.refl _ w).alloc (Nat.le_refl _) _).trans (hbel.mono (by simp))⟩
end Go.Proofs.Qxb6614904a
