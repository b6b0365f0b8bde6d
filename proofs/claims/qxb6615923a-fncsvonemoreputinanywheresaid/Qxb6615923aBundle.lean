/-
  zzCSVBundle: two loops that append objects, then the bundle.
-/
import Derived.Test.Qxb6615923aMap
import Derived.OwnWalk
namespace Go.Proofs.Qxb6615923a
open Go.RowKit

theorem Try.info29 : (Try.prog.info? 29).map (fun i => (i.zero, i.size, i.bytes)) = some (some (.agg #[.string ⟨#[]⟩, .pointer none]), 2, 24) := by kernel_rfl

theorem Row.later {w wr : World} {a : Option Addr} {len : Nat} {ss : List ByteArray} (h : Row w a len ss) (hb : Below w.heap.size w wr) : Row wr a len ss :=
  ⟨h.count, h.small, h.size, fun hp => by
    obtain ⟨b, off, ha, hlt, hc⟩ := h.cells hp
    exact ⟨b, off, ha, Nat.lt_of_lt_of_le hlt hb.size, fun i hi => (hb.cell (p := ⟨b, off + i, none⟩) hlt).trans (hc i hi)⟩⟩

theorem own_below {w wr : World} {base : Nat} {e : TypeId} {size : Nat} {v : Value} {n : Nat} {xs : List Value} (h : w.ownsRow base e size v n xs) (hb : Below w.heap.size w wr) : wr.ownsRow base e size v n xs := by
  obtain ⟨h1, h2⟩ := h
  refine ⟨h1, ?_⟩
  rcases h2 with h2 | ⟨g, cap, cur, hv, hg, hh, r⟩
  · exact Or.inl h2
  · exact Or.inr ⟨g, cap, cur, hv, hg, (hb.block g (Array.getElem?_eq_some_iff.1 hh).1).trans hh, r⟩

theorem own_shape {w : World} {base : Nat} {e : TypeId} {size : Nat} {v : Value} {n : Nat} {xs : List Value} (h : w.ownsRow base e size v n xs) : ∃ x c, v = .slice x n c := by
  obtain ⟨h1, ⟨rfl, rfl⟩ | ⟨g, cap, cur, rfl, hg, hh, r⟩⟩ := h
  · exact ⟨_, _, rfl⟩
  · exact ⟨_, _, rfl⟩

/-- The row's first object is the CSV at that path. -/
def First (ss : List ByteArray) (xs : List Value) : Prop := xs = [] ∨ ∃ a rest, xs = .string (ss.getD 0 ByteArray.empty) :: .pointer (some a) :: rest

theorem First.snoc {ss : List ByteArray} {xs : List Value} {k : Nat} (h : First ss xs) (hl : xs.length = k * 2) (a : Addr) : First ss (xs ++ [.string (ss.getD k ByteArray.empty), .pointer (some a)]) := by
  rcases h with rfl | ⟨a', rest, rfl⟩
  · right
    have : k = 0 := by simp at hl; omega
    subst this
    exact ⟨a, [], rfl⟩
  · exact Or.inr ⟨a', _, rfl⟩

theorem two_new (w : World) (x y : Value) (t : TypeId) : ∀ j u, [x, y][j]? = some u → (w.alloc (.cells #[x, y] t)).cell? ((⟨w.heap.size, 0, none⟩ : Addr).add j) = some u
  | 0, u, h => by simp at h; subst h; simp [Addr.add]
  | 1, u, h => by simp at h; subst h; simp [Addr.add]
  | n + 2, u, h => by simp at h

theorem two_one (s : ByteArray) (a : Addr) : ∀ u ∈ [Value.string s, Value.pointer (some a)], u.oneCell' = true := by
  intro u hu
  simp at hu
  rcases hu with rfl | rfl <;> rfl

/-- What zzCSVBundle hands back. -/
def Bundled (ss : List ByteArray) (len : Nat) (e : Ending) (w' : World) : Prop :=
  ∃ b m x c v2, e = .returned (.pointer (some ⟨b, 0, none⟩)) ∧ IsBundle w' b m (.slice x len c) v2 ∧
    (len = 1 → ∃ g a, x = some ⟨g, 0, none⟩ ∧ g < w'.heap.size ∧ w'.cell? ⟨g, 0, none⟩ = some (.string (ss.getD 0 ByteArray.empty)) ∧ w'.cell? ⟨g, 1, none⟩ = some (.pointer (some a)))

/-- Behind the first loop: whatever is made later, the first object is there. -/
theorem bundled_of {w wr : World} {x : Option Addr} {len c : Nat} {xs : List Value} {ss : List ByteArray} (hown : wr.ownsRow w.heap.size 29 2 (.slice x len c) len xs) (hf : First ss xs) :
    ∀ wq, Below wr.heap.size wr wq → len = 1 → ∃ g a, x = some ⟨g, 0, none⟩ ∧ g < wq.heap.size ∧ wq.cell? ⟨g, 0, none⟩ = some (.string (ss.getD 0 ByteArray.empty)) ∧ wq.cell? ⟨g, 1, none⟩ = some (.pointer (some a)) := by
  intro wq hb hl
  subst hl
  obtain ⟨h1, ⟨h2, h3⟩ | ⟨g, cap, cur, hv, hg, hh, hc1, hc2, hcs, htk⟩⟩ := hown
  · omega
  · rcases hf with rfl | ⟨a, rest, rfl⟩
    · simp at h1
    · have hglt : g < wr.heap.size := (Array.getElem?_eq_some_iff.1 hh).1
      have hcell : ∀ i, wq.cell? ⟨g, i, none⟩ = cur[i]? := fun i => by
        rw [hb.cell (p := ⟨g, i, none⟩) hglt]
        simp [World.cell?, hh]
      cases hv
      have e0 : cur.toList[0]? = some (.string (ss.getD 0 ByteArray.empty)) := by
        have := congrArg (fun l => l[0]?) htk
        simpa using this
      have e1 : cur.toList[1]? = some (.pointer (some a)) := by
        have := congrArg (fun l => l[1]?) htk
        simpa using this
      exact ⟨g, a, rfl, Nat.lt_of_lt_of_le hglt hb.size, by rw [hcell]; simpa using e0, by rw [hcell]; simpa using e1⟩

set_option maxHeartbeats 2000000 in
theorem bundle9 (a1 : Option Addr) (len1 cap1 : Nat) (ss1 : List ByteArray) (a2 : Option Addr) (len2 cap2 : Nat) (ss2 : List ByteArray) (w : World) (hr1 : Row w a1 len1 ss1) (hr2 : Row w a2 len2 ss2) (l1 : len1 ≤ 5000) (l2 : len2 ≤ 5000) :
    Calls Try.prog 9 #[.slice a1 len1 cap1, .slice a2 len2 cap2] w fun e w' => Bundled ss1 len1 e w' ∧ Below w.heap.size w w' := by
  obtain ⟨i0, hi, hz0, hz1, hz2⟩ := info_parts Try.info29
  rcases hr1.shape with h1 | ⟨b1, off1, rfl, H1⟩
  all_goals rcases hr2.shape with h2 | ⟨b2, off2, rfl, H2⟩
  all_goals
    go_enter Try.func9, Try.ntmps9
    go_wp2
    go_loopw [5, 6] (fun v i wr => ∃ (k : Nat) (x : Option Addr) (c : Nat) (xs : List Value), k ≤ len1 ∧ i = .int .i64 k ∧ v = .slice x k c ∧ wr.ownsRow w.heap.size 29 2 (.slice x k c) k xs ∧ First ss1 xs ∧ Below w.heap.size w wr) (fun _ i _ => len1 - (intOf i).toNat)
    case atStart => exact ⟨0, none, 0, [], Nat.zero_le _, rfl, rfl, World.ownsRow_nil _ _ _ _, Or.inl rfl, Below.refl _ _⟩
    case round =>
      obtain ⟨k, x, c, xs, hk, rfl, rfl, hown, hfst, hbel⟩ := hrel
      by_cases hlt : k < len1
      · first
        | (exfalso; omega)
        | (obtain ⟨s, hcell, hss⟩ : ∃ s, wr.cell? ⟨b1, off1 + k, none⟩ = some (.string s) ∧ Hid (s = ss1.getD k ByteArray.empty) := by
             obtain ⟨b', off', ha, _, hc⟩ := (hr1.later hbel).cells (by omega)
             cases ha
             exact ⟨_, hc k hlt, rfl⟩
           go_wp2_with fail
           refine (obj14 s _).mono ?_
           rintro e w1 ⟨⟨ad, rfl⟩, hb1⟩
           have hown1 := own_below hown hb1
           have hbel1 : Below w.heap.size w w1 := hbel.trans (hb1.mono hbel.size)
           have hsz1 := hbel1.size
           clear hb1
           go_wp2_with (at_builtin; refine wpList_append_own _ rfl _ _ 38 rfl w.heap.size 29 i0 (.agg #[.string ⟨#[]⟩, .pointer none]) 2 24 Try.underlying38 hi hz0 hz1 hz2 rfl (by decide) _ _ _ rfl (hown1.alloc _) ⟨w1.heap.size, 0, none⟩ 1 1 [.string s, .pointer (some ad)] rfl rfl (two_new _ _ _ _) (two_one _ _) (by unfold maxLen; omega) (by omega) (by simp; omega) ?_)
           intro v' w2 hown2 hgrow2 hnil2
           obtain ⟨x', c', hv'⟩ := own_shape hown2
           have hbel2 := (below_more hbel1 (.cells #[.string s, .pointer (some ad)] 29)).grown hgrow2 (by simp; omega) (fun j hj => by rcases hown1.2 with ⟨e1, _⟩ | ⟨g, cap, cur, e1, hg, _⟩ <;> rw [e1] at hj <;> simp [Value.ownBlock] at hj; omega)
           have hf2 : First ss1 (xs ++ [.string s, .pointer (some ad)]) := by rw [hss.out]; exact hfst.snoc hown.1 ad
           clear hown hown1 hgrow2 hnil2 hss hfst hcell hbel hbel1
           rw [hv'] at hown2 ⊢
           go_wp2
           go_roundw
           case rel => exact ⟨k + 1, x', c', _, by omega, by go_num, rfl, hown2, hf2, hbel2⟩
           case measure => simp [intOf]; omega)
      · obtain rfl : k = len1 := by omega
        clear hlt hk
        obtain ⟨wm, hwm⟩ : ∃ wm, wm = wr := ⟨_, rfl⟩
        subst hwm
        have Hfin : Hid (∀ wq, Below wm.heap.size wm wq → k = 1 → ∃ g a, x = some ⟨g, 0, none⟩ ∧ g < wq.heap.size ∧ wq.cell? ⟨g, 0, none⟩ = some (.string (ss1.getD 0 ByteArray.empty)) ∧ wq.cell? ⟨g, 1, none⟩ = some (.pointer (some a))) := bundled_of hown hfst
        have hr2m := hr2.later hbel
        clear hown hfst hr1 hr2
        go_wp2_with fail
        go_loopw [7, 8] (fun v i wq => ∃ (j : Nat) (y : Option Addr) (d : Nat) (ys : List Value), j ≤ len2 ∧ i = .int .i64 j ∧ v = .slice y j d ∧ wq.ownsRow wm.heap.size 29 2 (.slice y j d) j ys ∧ Below wm.heap.size wm wq) (fun _ i _ => len2 - (intOf i).toNat)
        case atStart => exact ⟨0, none, 0, [], Nat.zero_le _, rfl, rfl, World.ownsRow_nil _ _ _ _, Below.refl _ _⟩
        case round =>
          obtain ⟨j, y, d, ys, hj, rfl, rfl, hown, hbelq⟩ := hrel
          by_cases hlt : j < len2
          · first
            | (exfalso; omega)
            | (obtain ⟨s, hcell⟩ : ∃ s, wr.cell? ⟨b2, off2 + j, none⟩ = some (.string s) := by
                 obtain ⟨b', off', ha, _, hc⟩ := (hr2m.later hbelq).cells (by omega)
                 cases ha
                 exact ⟨_, hc j hlt⟩
               go_wp2_with fail
               refine (dep15 s _ _).mono ?_
               rintro e w1 ⟨⟨ad, rfl⟩, hb1⟩
               have hown1 := own_below hown hb1
               have hbel1 : Below wm.heap.size wm w1 := hbelq.trans (hb1.mono hbelq.size)
               have hsz1 := hbel1.size
               clear hb1
               go_wp2_with (at_builtin; refine wpList_append_own _ rfl _ _ 38 rfl wm.heap.size 29 i0 (.agg #[.string ⟨#[]⟩, .pointer none]) 2 24 Try.underlying38 hi hz0 hz1 hz2 rfl (by decide) _ _ _ rfl (hown1.alloc _) ⟨w1.heap.size, 0, none⟩ 1 1 [.string s, .pointer (some ad)] rfl rfl (two_new _ _ _ _) (two_one _ _) (by unfold maxLen; omega) (by omega) (by simp; omega) ?_)
               intro v' w2 hown2 hgrow2 hnil2
               obtain ⟨x', c', hv'⟩ := own_shape hown2
               have hbel2 := (below_more hbel1 (.cells #[.string s, .pointer (some ad)] 29)).grown hgrow2 (by simp; omega) (fun j hj => by rcases hown1.2 with ⟨e1, _⟩ | ⟨g, cap, cur, e1, hg, _⟩ <;> rw [e1] at hj <;> simp [Value.ownBlock] at hj; omega)
               clear hown hown1 hgrow2 hnil2 hcell hbelq hbel1
               rw [hv'] at hown2 ⊢
               go_wp2
               go_roundw
               case rel => exact ⟨j + 1, x', c', _, by omega, by go_num, rfl, hown2, hbel2⟩
               case measure => simp [intOf]; omega)
          · have hfin := Hfin.out
            clear Hfin
            have Hq : Hid (∀ wq, Below wm.heap.size wm wq → k = 1 → ∃ g a, x = some ⟨g, 0, none⟩ ∧ g < wq.heap.size ∧ wq.cell? ⟨g, 0, none⟩ = some (.string (ss1.getD 0 ByteArray.empty)) ∧ wq.cell? ⟨g, 1, none⟩ = some (.pointer (some a))) := hfin
            clear hfin hown hr2m
            go_wp2_with fail
            refine (new16 _ _ _ _ _ _ _).mono ?_
            rintro e w3 ⟨⟨b, m, rfl, hB⟩, hb3⟩
            have hbm3 : Below wm.heap.size wm w3 := hbelq.trans (hb3.mono hbelq.size)
            have hb03 : Below w.heap.size w w3 := hbel.trans (hbm3.mono hbel.size)
            clear hb3 hbelq hbel
            go_wp2_with fail
            go_ret
            exact ⟨⟨b, m, x, c, _, rfl, hB, Hq.out w3 hbm3⟩, hb03⟩
end Go.Proofs.Qxb6615923a
