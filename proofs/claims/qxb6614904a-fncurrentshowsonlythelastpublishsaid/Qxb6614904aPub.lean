/-
  publish.
-/
import Derived.Test.Qxb6614904aState
import Derived.Test.Qxb6614904aRel
import Derived.Test.Qxb6614904aWake
namespace Go.Proofs.Qxb6614904a
open Go.RowKit Go.Maps Go.Sort Go.Shelf Go.MuLone

theorem sortsI (m : Nat) : AnyZI.SortsIn Try.prog Try.sortedI_ren Fence.wide m :=
  ⟨fun blk off cap ss W hH hblk hsz => callsIn_wide.2 (AnyM.slices_Sort_int Try.sortI blk off cap ss W hH hblk hsz),
   fun p cap W => callsIn_wide.2 (AnyM.slices_Sort_int_none Try.sortI p cap W)⟩

theorem keys18 (mb : Option Nat) (W : World) : Calls Try.prog 18 #[.map mb] W fun e w' => e = .returned (.func (.func 25) #[] #[.pointer (some ⟨W.heap.size, 0, none⟩)]) ∧ w' = W.alloc (.cells #[.map mb] 45) :=
  (callsIn_wide (n := 5)).1 (AnyZI.keys_in Try.keysI Fence.wide 5 trivial rfl mb W)

/-- slices.Sorted over the keys of an int map that holds nothing: nil. -/
theorem sorted17 (Bm b : Nat) (w : World) (hBm : Bm < w.heap.size) (hm : w.cell? ⟨Bm, 0, none⟩ = some (.map (some b))) (hb : w.heap[b]? = some (.map #[] 0)) :
    Calls Try.prog 17 #[.func (.func 25) #[] #[.pointer (some ⟨Bm, 0, none⟩)]] w fun e w' => e = .returned (.slice none 0 0) ∧ Kept [] w w' := by
  have hown : w.ownsMap Try.prog 3 R0 b 0 (.map []) := ⟨#[], 0, hb, ⟨by simp, MapKept.stamped_empty 0, by simp⟩, Nat.le_refl _, rfl⟩
  have hseq : SeqGives Fence.wide 2 Try.prog 25 #[.pointer (some ⟨Bm, 0, none⟩)] encZ (fun ss => ss.Perm (intKeys (.map [] : DataW Unit))) (Maps.size (.map [] : DataW Unit)) w :=
    AnyZI.keys_gives (ρ := Try.keysI_ren) { Try.keysI with } Fence.wide _ trivial rfl (by omega) Bm b 0 _ _ hBm hm hown
  have cS := (callsIn_wide (n := 5)).1 (AnyZI.sorted_in Try.sortedI Fence.wide 5 trivial trivial trivial trivial rfl (by omega) (sortsI _) (enters_of Try.func24 (by kernel_rfl) rfl) 25 #[.pointer (some ⟨Bm, 0, none⟩)] trivial (enters_of Try.func25 (by kernel_rfl) rfl) _ _ (by simp [Maps.size]) (by simp [Maps.size]) _ hseq)
  refine Calls.mono (show Calls Try.prog 17 _ _ _ from cS) ?_
  rintro e w' ⟨v, ss, rfl, hS, _, hnil, hbel⟩
  have : ss = [] := List.Perm.eq_nil (by simpa [intKeys] using hS)
  rw [hnil.2 this]
  exact ⟨rfl, Kept.of_below hbel⟩

open Go.Conc in
theorem loneTo_mono {P : Program} {Q Q' : Goroutine → World → Prop} {g : Goroutine} {w : World} (h : LoneTo P Q g w) (hq : ∀ g' w', Q g' w' → Q' g' w') : LoneTo P Q' g w :=
  let ⟨g', w', hs, h'⟩ := h; ⟨g', w', hs, hq _ _ h'⟩

/-- What publish leaves. -/
def Pub (b cm gm : Nat) (num : Int) (sl : Value) (acc : List (Int × Int)) (w : World) (w' : World) : Prop :=
  ∃ rv L, St w' b cm gm num sl (.int .u64 num) sl (.slice none 0 0) (.slice none 0 0) rv ∧ Asc L ∧ (∀ x, x ∈ L ↔ x ∈ acc) ∧ w'.ownsRow w.heap.size 70 2 rv L.length (flatP L) ∧ Kept [b] w w'

theorem ownsRow_kept {S : List Nat} {w w' : World} {base : Nat} {e : TypeId} {size : Nat} {v : Value} {n : Nat} {xs : List Value} (h : w.ownsRow base e size v n xs) (hk : Kept S w w') (hS : ∀ k ∈ S, k < base) : w'.ownsRow base e size v n xs := by
  obtain ⟨h1, h2⟩ := h
  refine ⟨h1, ?_⟩
  rcases h2 with h2 | ⟨g, cap, cur, hv, hb, hh, r⟩
  · exact .inl h2
  · exact .inr ⟨g, cap, cur, hv, hb, (hk.block g (Array.getElem?_eq_some_iff.1 hh).1 (fun e => by have := hS g e; omega)).trans hh, r⟩
theorem ownsRow_one {w : World} {base : Nat} {e : TypeId} {size : Nat} {v : Value} {n : Nat} {xs : List Value} (h : w.ownsRow base e size v n xs) : v.oneCell' = true := by
  rcases h.2 with ⟨rfl, _⟩ | ⟨g, cap, cur, rfl, _⟩ <;> rfl

theorem ownsRow_slice {w : World} {base : Nat} {e : TypeId} {size : Nat} {v : Value} {n : Nat} {xs : List Value} (h : w.ownsRow base e size v n xs) : ∃ x l c, v = .slice x l c := by
  rcases h.2 with ⟨rfl, _⟩ | ⟨g, cap, cur, rfl, _⟩ <;> exact ⟨_, _, _, rfl⟩

open Go.Conc in
set_option maxRecDepth 100000 in
set_option maxHeartbeats 8000000 in
theorem publish14 (b cm gm : Nat) (num : Int) (sl v0 v1 v2 v3 v4 : Value) (acc : List (Int × Int)) (w : World) (hst : St w b cm gm num sl v0 v1 v2 v3 v4) (hcm : w.heap[cm]? = some (.map #[] 0)) (hm : GoneMap w gm acc) (ha : acc.length ≤ 8192) (hok : ∀ x ∈ acc, okP x) :
    Calls Try.prog 14 #[.pointer (some ⟨b, 0, none⟩)] w fun e w' => e = .returned (.tuple #[]) ∧ Pub b cm gm num sl acc w w' := by
  refine calls_of_loneTo fun cs => ?_
  rw [enter_at (P := Try.prog) (f := 14) (fn := Try.f14) (c := Try.f14.body.getD .skip) _ Try.func14 (by simp [Try.f14])]
  simp only [Try.ntmps14, List.size_toArray, List.length_cons, List.length_nil, Nat.reduceAdd, Nat.reduceSub, Array.replicate_succ, Array.replicate_zero, List.push_toArray, List.append_toArray, List.nil_append, List.cons_append]
  simp only [Try.f14, Option.getD_some]
  have HS : Hid _ := hst
  have c1 := hst.c1
  have c2 := hst.c2
  have c3 := hst.c3
  have o1 := hst.one.1
  have hst1 := run_store_one Try.prog
  clear hst
  refine lone_seq fun K hK => ?_
  go_wp2
  obtain ⟨WA, hWA⟩ : ∃ WA, WA = w.alloc (.cells #[.int .u64 num, sl, .slice none 0 0, .slice none 0 0, .slice none 0 0] 37) := ⟨_, rfl⟩
  rw [← hWA]
  have hkA : Kept [] w WA := by rw [hWA]; exact (Kept.refl _ _).alloc _
  have hsA : Hid (WA.heap.size = w.heap.size + 1) := by show _ = _; rw [hWA]; simp
  have hvA : ∀ i, WA.cell? ⟨w.heap.size, i, none⟩ = (#[.int .u64 num, sl, .slice none 0 0, .slice none 0 0, .slice none 0 0] : Array Value)[i]? := fun i => by rw [hWA]; exact new_cell _ _ _ _
  have hfA : ∀ i, WA.frozen? ⟨w.heap.size, i, none⟩ = false := fun i => by rw [hWA]; exact new_frozen _ _ _ _
  have SA : Hid (St WA b cm gm num sl v0 v1 v2 v3 v4) := HS.out.kept hkA (by simp)
  have hbn : b < w.heap.size := HS.out.lt
  have hcml : cm < w.heap.size := (Array.getElem?_eq_some_iff.1 hcm).1
  have hgml : gm < w.heap.size := hm.lt
  have hcmA : Hid (WA.heap[cm]? = some (.map #[] 0)) := (hkA.block cm hcml (by simp)).trans hcm
  have hmA : Hid (GoneMap WA gm acc) := hm.block (hkA.block gm hgml (by simp))
  clear hWA c1 c2 c3 hcm hm HS
  refine lone_seq fun K hK => ?_
  have c6 := SA.out.c6
  go_wp2_with fail
  refine (keys18 _ _).mono ?_
  rintro e w' ⟨rfl, rfl⟩
  go_wp2_with fail
  refine (sorted17 WA.heap.size cm (WA.alloc (.cells #[.map (some cm)] 45)) (by simp) (by simp) ((Below.heap_alloc _ _ _ (by have := hsA.out; omega)).trans hcmA.out)).mono ?_
  rintro e WB ⟨rfl, hkB0⟩
  have hkB : Kept [] WA WB := ((Kept.refl [] WA).alloc _).trans hkB0
  clear hkB0 hcmA c6
  go_wp2
  go_loopw [21] (fun i wr => i = .int .i64 0 ∧ wr = WB) (fun _ _ => 0)
  case atStart => exact ⟨rfl, rfl⟩
  case round =>
  obtain ⟨rfl, rfl⟩ := hrel
  go_wp2
  -- the releases
  have hnA : w.heap.size < WA.heap.size := by have := hsA.out; omega
  have hvB : ∀ i, wr.cell? ⟨w.heap.size, i, none⟩ = (#[.int .u64 num, sl, .slice none 0 0, .slice none 0 0, .slice none 0 0] : Array Value)[i]? := fun i => (hkB.cell (p := ⟨w.heap.size, i, none⟩) hnA (by simp)).trans (hvA i)
  have hfB : ∀ i, wr.frozen? ⟨w.heap.size, i, none⟩ = false := fun i => (hkB.frozen (p := ⟨w.heap.size, i, none⟩) hnA (by simp)).trans (hfA i)
  have hnB : w.heap.size < wr.heap.size := Nat.lt_of_lt_of_le hnA hkB.size
  have SB : Hid (St wr b cm gm num sl v0 v1 v2 v3 v4) := SA.out.kept hkB (by simp)
  have hmB : Hid (GoneMap wr gm acc) := hmA.out.block (hkB.block gm (by have := hsA.out; omega) (by simp))
  have hkwB : Kept [] w wr := hkA.trans hkB
  clear hvA hfA SA hmA hkA hkB hnA hsA
  refine lone_seq fun K hK => ?_
  go_wp2_with fail
  refine (releases20 b gm acc wr SB.out.c7 hmB.out ha hok).mono ?_
  rintro e WC ⟨rv, L, rfl, hA, hmem, hrow, hbel⟩
  have hkC : Kept [] wr WC := Kept.of_below hbel
  have n4 : WC.cell? ⟨w.heap.size, 4, none⟩ = some (.slice none 0 0) := (hkC.cell (p := ⟨w.heap.size, 4, none⟩) hnB (by simp)).trans (by rw [hvB 4]; rfl)
  have g4 : WC.frozen? ⟨w.heap.size, 4, none⟩ = false := (hkC.frozen (p := ⟨w.heap.size, 4, none⟩) hnB (by simp)).trans (hfB 4)
  obtain ⟨rx, rl, rc, rfl⟩ := ownsRow_slice hrow
  have Hrow : Hid _ := hrow
  clear hrow
  go_wp2
  obtain ⟨WD, hWD⟩ : ∃ WD, WD = WC.setCell ⟨w.heap.size, 4, none⟩ (.slice rx rl rc) := ⟨_, rfl⟩
  rw [← hWD]
  have hne : w.heap.size ≠ b := by omega
  have hkCD : Kept [w.heap.size] WC WD := by rw [hWD]; exact (Kept.refl _ _).setCell (.inl (by simp)) _
  have m4 : WD.cell? ⟨w.heap.size, 4, none⟩ = some (.slice rx rl rc) := by rw [hWD]; exact World.cell?_setCell_same _ _ _ n4
  have hvD : ∀ i, i ≠ 4 → WD.cell? ⟨w.heap.size, i, none⟩ = (#[.int .u64 num, sl, .slice none 0 0, .slice none 0 0, .slice none 0 0] : Array Value)[i]? := fun i hi => by
    rw [hWD, cell_other _ _ (.inr (Ne.symm hi))]; exact (hkC.cell (p := ⟨w.heap.size, i, none⟩) hnB (by simp)).trans (hvB i)
  have m0 := hvD 0 (by omega)
  have m1 := hvD 1 (by omega)
  have m2 := hvD 2 (by omega)
  have m3 := hvD 3 (by omega)
  have SD : Hid (St WD b cm gm num sl v0 v1 v2 v3 v4) := (SB.out.kept hkC (by simp)).kept hkCD (by simpa using Ne.symm hne)
  have hkwD : Kept [] w WD := (hkwB.trans hkC).trans' hkCD (by simp)
  have hsC : wr.heap.size ≤ WC.heap.size := hkC.size
  have hbC : b < WC.heap.size := by omega
  clear hWD hvD hvB hfB n4 g4 hbel SB hmB hkC hkwB
  -- the lock
  refine lone_seq fun K hK => ?_
  go_wp2_with fail
  refine (lock_free Try.muLib ⟨b, 9, none⟩ WD SD.out.c9 (SD.out.fr 9)).mono ?_
  rintro e w' ⟨rfl, rfl⟩
  obtain ⟨WE, hWE⟩ : ∃ WE, WE = WD.setCell ⟨b, 9, none⟩ (.int .i32 1) := ⟨_, rfl⟩
  rw [← hWE]
  have ob : ∀ i, i ≠ 9 → WE.cell? ⟨b, i, none⟩ = WD.cell? ⟨b, i, none⟩ := fun i hi => by rw [hWE]; exact cell_other _ _ (.inr (Ne.symm hi))
  have on : ∀ i, WE.cell? ⟨w.heap.size, i, none⟩ = WD.cell? ⟨w.heap.size, i, none⟩ := fun i => by rw [hWE]; exact cell_other _ _ (.inl (Ne.symm hne))
  have hfE : ∀ x, WE.frozen? x = WD.frozen? x := fun x => by rw [hWE]; simp
  have k9 : WE.cell? ⟨b, 9, none⟩ = some (.int .i32 1) := by rw [hWE]; exact World.cell?_setCell_same _ _ _ SD.out.c9
  have hkDE : Kept [b] WD WE := by rw [hWE]; exact (Kept.refl _ _).setCell (.inl (by simp)) _
  have k0 := (on 0).trans m0
  have k1 := (on 1).trans m1
  have k2 := (on 2).trans m2
  have k3 := (on 3).trans m3
  have k4 := (on 4).trans m4
  simp at k0 k1 k2 k3
  have j11 := (ob 11 (by omega)).trans SD.out.c11
  have j12 := (ob 12 (by omega)).trans SD.out.c12
  have j13 := (ob 13 (by omega)).trans SD.out.c13
  have j14 := (ob 14 (by omega)).trans SD.out.c14
  have j15 := (ob 15 (by omega)).trans SD.out.c15
  have h11 := (hfE _).trans (SD.out.fr 11)
  have h12 := (hfE _).trans (SD.out.fr 12)
  have h13 := (hfE _).trans (SD.out.fr 13)
  have h14 := (hfE _).trans (SD.out.fr 14)
  have h15 := (hfE _).trans (SD.out.fr 15)
  have HO : Hid _ := ob
  have HF : Hid _ := hfE
  clear ob on hfE m0 m1 m2 m3 m4 hWE
  go_wp2
  -- the view is laid
  refine lone_seq fun K hK => ?_
  go_wp2
  obtain ⟨WF, hWF⟩ : ∃ WF, WF = ((((WE.setCell ⟨b, 11, none⟩ (.int .u64 num)).setCell ⟨b, 12, none⟩ sl).setCell ⟨b, 13, none⟩ (.slice none 0 0)).setCell ⟨b, 14, none⟩ (.slice none 0 0)).setCell ⟨b, 15, none⟩ (.slice rx rl rc) := ⟨_, rfl⟩
  rw [← hWF]
  have i15 : WF.cell? ⟨b, 15, none⟩ = some (.slice rx rl rc) := by
    rw [hWF]; refine World.cell?_setCell_same' _ _ _ ?_
    rw [cell_other _ _ (.inr (by omega)), cell_other _ _ (.inr (by omega)), cell_other _ _ (.inr (by omega)), cell_other _ _ (.inr (by omega)), j15]; rfl
  have i14 : WF.cell? ⟨b, 14, none⟩ = some (.slice none 0 0) := by
    rw [hWF, cell_other _ _ (.inr (by omega))]; refine World.cell?_setCell_same' _ _ _ ?_
    rw [cell_other _ _ (.inr (by omega)), cell_other _ _ (.inr (by omega)), cell_other _ _ (.inr (by omega)), j14]; rfl
  have i13 : WF.cell? ⟨b, 13, none⟩ = some (.slice none 0 0) := by
    rw [hWF, cell_other _ _ (.inr (by omega)), cell_other _ _ (.inr (by omega))]; refine World.cell?_setCell_same' _ _ _ ?_
    rw [cell_other _ _ (.inr (by omega)), cell_other _ _ (.inr (by omega)), j13]; rfl
  have i12 : WF.cell? ⟨b, 12, none⟩ = some sl := by
    rw [hWF, cell_other _ _ (.inr (by omega)), cell_other _ _ (.inr (by omega)), cell_other _ _ (.inr (by omega))]; refine World.cell?_setCell_same' _ _ _ ?_
    rw [cell_other _ _ (.inr (by omega)), j12]; rfl
  have i11 : WF.cell? ⟨b, 11, none⟩ = some (.int .u64 num) := by
    rw [hWF, cell_other _ _ (.inr (by omega)), cell_other _ _ (.inr (by omega)), cell_other _ _ (.inr (by omega)), cell_other _ _ (.inr (by omega))]; exact World.cell?_setCell_same' _ _ _ (by rw [j11]; rfl)
  have iob : ∀ i, i < 11 ∨ 15 < i → WF.cell? ⟨b, i, none⟩ = WE.cell? ⟨b, i, none⟩ := fun i hi => by
    rw [hWF, cell_other _ _ (.inr (by omega)), cell_other _ _ (.inr (by omega)), cell_other _ _ (.inr (by omega)), cell_other _ _ (.inr (by omega)), cell_other _ _ (.inr (by omega))]
  have hfF : ∀ x, WF.frozen? x = WD.frozen? x := fun x => by rw [hWF]; simp; exact HF.out x
  have hkEF : Kept [b] WE WF := by rw [hWF]; exact (((((Kept.refl _ _).setCell (.inl (by simp)) _).setCell (.inl (by simp)) _).setCell (.inl (by simp)) _).setCell (.inl (by simp)) _).setCell (.inl (by simp)) _
  have i9 := (iob 9 (by omega)).trans k9
  clear hWF k0 k1 k2 k3 k4 j11 j12 j13 j14 j15 h11 h12 h13 h14 h15 k9
  -- the lock is let go
  refine lone_seq fun K hK => ?_
  go_wp2_with fail
  refine (unlock_held Try.muLib ⟨b, 9, none⟩ WF i9 (by rw [hfF]; exact SD.out.fr 9)).mono ?_
  rintro e w' ⟨rfl, rfl⟩
  obtain ⟨WG, hWG⟩ : ∃ WG, WG = WF.setCell ⟨b, 9, none⟩ (.int .i32 0) := ⟨_, rfl⟩
  rw [← hWG]
  have gob : ∀ i, i ≠ 9 → WG.cell? ⟨b, i, none⟩ = WF.cell? ⟨b, i, none⟩ := fun i hi => by rw [hWG]; exact cell_other _ _ (.inr (Ne.symm hi))
  have SG : Hid (St WG b cm gm num sl (.int .u64 num) sl (.slice none 0 0) (.slice none 0 0) (.slice rx rl rc)) := by
    have h := SD.out
    have e : ∀ i, i < 11 ∨ 15 < i → i ≠ 9 → WG.cell? ⟨b, i, none⟩ = WD.cell? ⟨b, i, none⟩ := fun i h1 h2 => (gob i h2).trans ((iob i h1).trans (HO.out i h2))
    exact ⟨by rw [hWG, World.size_setCell]; exact Nat.lt_of_lt_of_le (Nat.lt_of_lt_of_le h.lt hkDE.size) hkEF.size, (e 1 (by omega) (by omega)).trans h.c1, (e 2 (by omega) (by omega)).trans h.c2, (e 3 (by omega) (by omega)).trans h.c3, (e 6 (by omega) (by omega)).trans h.c6, (e 7 (by omega) (by omega)).trans h.c7,
      by rw [hWG]; exact World.cell?_setCell_same' _ _ _ (by rw [i9]; rfl),
      (gob 11 (by omega)).trans i11, (gob 12 (by omega)).trans i12, (gob 13 (by omega)).trans i13, (gob 14 (by omega)).trans i14, (gob 15 (by omega)).trans i15, (e 17 (by omega) (by omega)).trans h.c17, (e 18 (by omega) (by omega)).trans h.c18,
      fun i => by rw [hWG, World.frozen?_setCell, hfF]; exact h.fr i, o1, rfl, o1, rfl, rfl, rfl⟩
  have hkDG : Kept [b] WD WG := by rw [hWG]; exact (hkDE.trans hkEF).setCell (.inl (by simp)) _
  clear gob hWG iob hfF HO HF i9 i11 i12 i13 i14 i15 SD hkDE hkEF hst1
  go_wp2
  -- the two channels
  have c17 := SG.out.c17
  have c18 := SG.out.c18
  refine lone_seq fun K hK => ?_
  go_region_held3 (fun w' => w'.cell? ⟨b, 17, none⟩ = some (.chan none) ∧ w'.cell? ⟨b, 18, none⟩ = some (.chan none)) (go_keep) (fail)
  refine hK _ _ ?_
  clear K hK
  obtain ⟨WH, hWH⟩ : ∃ WH, WH = (WG.alloc (.cells #[.chan none, .chan none] 57)).drew := ⟨_, rfl⟩
  rw [← hWH]
  have q0 : WH.cell? ⟨WG.heap.size, 0, none⟩ = some (.chan none) := by rw [hWH]; exact new_cell _ _ _ _
  have q1 : WH.cell? ⟨WG.heap.size, 1, none⟩ = some (.chan none) := by rw [hWH]; exact new_cell _ _ _ _
  have hkGH : Kept [] WG WH := by rw [hWH]; exact ((Kept.refl _ _).alloc _).drew
  clear hWH
  refine LoneTo.step step_block ?_
  refine LoneTo.step step_loop ?_
  refine loneTo_mono (wake_round0 _ (by unfold IsWake; simp only [Try.f14, Option.getD_some, sndSeq, unBlock, unLoop]) cs WH WG.heap.size q0 q1 _ _ _ _ _ _ _ _ _ _ _ _ _ _ _ _ _ _ _ _ _ _ _ _ _ _ _ _ _ _ _ _ _ _ _ _ _ _ _ _ _ _ _ _ _ _ _ _ _ _ _ _ _ _ _ _ _ _ _ _ _ _ _ _ _ _ _ _ _ _ _ _ _ _ _ _ _ _ _ _ _ _ _ _ _) ?_
  rintro g' w' ⟨e, fr, rfl, ⟨rfl, rfl⟩, hf, hl⟩
  have hk1 : Kept [w.heap.size, b] WC w' := (((hkCD.mono (by simp)).trans (hkDG.mono (by simp))).trans (hkGH.mono (by simp)))
  refine ⟨_, fr, rfl, ⟨rfl, .slice rx rl rc, L, SG.out.kept hkGH (by simp), hA, hmem, ?_, ?_⟩, hf, hl⟩
  · refine ownsRow_base_a (ownsRow_kept Hrow.out hk1 (fun k hk => ?_)) (by omega)
    simp at hk
    omega
  · exact ((hkwD.mono (by simp)).trans hkDG).trans (hkGH.mono (by simp))

set_option maxHeartbeats 1000000 in
theorem publish8 (b cm gm : Nat) (num : Int) (sl v0 v1 v2 v3 v4 : Value) (acc : List (Int × Int)) (w : World) (hst : St w b cm gm num sl v0 v1 v2 v3 v4) (hcm : w.heap[cm]? = some (.map #[] 0)) (hm : GoneMap w gm acc) (ha : acc.length ≤ 8192) (hok : ∀ x ∈ acc, okP x) :
    Calls Try.prog 8 #[.pointer (some ⟨b, 0, none⟩)] w fun e w' => e = .returned (.tuple #[]) ∧ Pub b cm gm num sl acc w w' := by
  have H : Hid _ := publish14 b cm gm num sl v0 v1 v2 v3 v4 acc w hst hcm hm ha hok
  clear hst hcm hm hok
  go_enter Try.func8, Try.ntmps8
  go_wp2_with fail
  refine (show Calls _ _ _ _ _ from H.out).mono ?_
  rintro e w' ⟨rfl, hP⟩
  have HP : Hid _ := hP
  clear hP H
  go_wp2
  go_end0
  exact ⟨rfl, HP.out⟩
end Go.Proofs.Qxb6614904a
