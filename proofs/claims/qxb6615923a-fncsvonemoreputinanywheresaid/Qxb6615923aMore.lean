/-
  THE WALK OF FnCsvOneMorePutInAnywhere.
-/
import Derived.Test.Qxb6615923aCsv
import Derived.Deep.DeepCutAuto
import Derived.Deep.RegionWith
import Derived.Shelf.SlSortCmp.QuietGrown
import Derived.Laws.AppendOwnNone
import Derived.Deep.QuietTactic
import Derived.BigQuiet
namespace Go.Proofs.Qxb6615923a
open Go.RowKit

theorem Try.info9 : (Try.prog.info? 9).map (fun i => (i.zero, i.size, i.bytes)) = some (some (.string ⟨#[]⟩), 1, 16) := by kernel_rfl

/-- Strings as cells. -/
def strCells (tt : List ByteArray) : List Value := tt.map Value.string
theorem strCells_append (a b : List ByteArray) : strCells (a ++ b) = strCells a ++ strCells b := List.map_append ..
theorem strCells_length (a : List ByteArray) : (strCells a).length = a.length := List.length_map ..

theorem row_of_own {w wx : World} {x : Option Addr} {n c : Nat} {tt : List ByteArray} (h : wx.ownsRow w.heap.size 9 1 (.slice x n c) n (strCells tt)) (hn : n ≤ 9223372036854775807) (hs : ∀ s ∈ tt, s.size ≤ 9223372036854775807) : Row wx x n tt := by
  obtain ⟨h1, h2⟩ := h
  have hl : tt.length = n := by rw [strCells_length] at h1; omega
  refine ⟨hl, hn, hs, fun hp => ?_⟩
  rcases h2 with ⟨h2, h3⟩ | ⟨g, cap, cur, hv, hg, hh, hc1, hc2, hcs, htk⟩
  · omega
  · cases hv
    refine ⟨g, 0, rfl, (Array.getElem?_eq_some_iff.1 hh).1, fun i hi => ?_⟩
    have e2 : (strCells tt)[i]? = some (.string (tt.getD i ByteArray.empty)) := by
      have hi' : i < tt.length := by omega
      simp [strCells, List.getD_eq_getElem?_getD, List.getElem?_eq_getElem hi']
    have e : cur.toList[i]? = some (.string (tt.getD i ByteArray.empty)) := by
      rw [← e2, ← htk, List.getElem?_take_of_lt (by omega)]
    rw [Nat.zero_add]
    simpa [World.cell?, hh] using e

theorem row_news {w : World} {x : Addr} {n : Nat} {tt : List ByteArray} (h : Row w (some x) n tt) : ∀ j u, (strCells tt)[j]? = some u → w.cell? (x.add j) = some u := by
  intro j u hj
  unfold strCells at hj
  rw [List.getElem?_map] at hj
  obtain ⟨s, hs, rfl⟩ := Option.map_eq_some_iff.1 hj
  have hlt : j < tt.length := (List.getElem?_eq_some_iff.1 hs).1
  rw [h.count] at hlt
  obtain ⟨b, off, ha, hb, hc⟩ := h.cells (by omega)
  cases ha
  rw [Go.WideShapes.add_plain, hc j hlt, List.getD_eq_getElem?_getD, hs]
  rfl

theorem strs_one (tt : List ByteArray) : ∀ u ∈ strCells tt, u.oneCell' = true := by
  intro u hu
  unfold strCells at hu
  obtain ⟨s, _, rfl⟩ := List.mem_map.1 hu
  rfl

theorem own_low {w wx : World} {e size : Nat} {v : Value} {n : Nat} {xs : List Value} (h : wx.ownsRow w.heap.size e size v n xs) : ∀ k, v.ownBlock = some k → w.heap.size ≤ k := by
  intro k hk
  rcases h.2 with ⟨e1, _⟩ | ⟨g, cap, cur, e1, hg, _⟩
  · rw [e1] at hk; simp [Value.ownBlock] at hk
  · rw [e1] at hk; simp [Value.ownBlock] at hk; omega

theorem one_new (w : World) (x : Value) (t : TypeId) : ∀ j u, [x][j]? = some u → (w.alloc (.cells #[x] t)).cell? ((⟨w.heap.size, 0, none⟩ : Addr).add j) = some u
  | 0, u, h => by simp at h; subst h; simp [Addr.add]
  | n + 1, u, h => by simp at h

theorem drawn_below {B : Nat} {a w : World} (h : Below B a w) (n : Nat) : Below B a (w.drewN n) := h.trans ⟨rfl, rfl, rfl, Nat.le_refl _, fun _ _ => rfl⟩

theorem grow_below (w : World) (n : Nat) (os : Array Obj) : Below w.heap.size w (Go.Sort.grow (w.drewN n) os) :=
  ⟨rfl, rfl, rfl, by simp [Go.Sort.grow], fun k hk => by simp [Go.Sort.grow, Array.getElem?_append, hk]⟩

open Go.Sort in
theorem path10g (s : ByteArray) (p : Option Addr) (W : World) :
    Calls Try.prog 10 #[.agg #[.string s, .pointer p]] W fun e w' => e = .returned (.string s) ∧ ∃ q os', w' = grow (W.drewN q) os' :=
  (path10 s p W).mono fun e w' ⟨he, hw⟩ => ⟨he, 0, #[.cells #[.string s, .pointer p] 29], by rw [hw]; rfl⟩

/-- The three ways: the list was empty; it held one; it held more. -/
theorem more_facts {w : World} {a1 : Option Addr} {len1 : Nat} {ss1 tt : List ByteArray} {ex : ByteArray} {c : Nat} {sb sa : ByteArray} {pb pa : Option Addr} (hr : Row w a1 len1 ss1) (htt : ss1.take c ++ [ex] ++ ss1.drop c = tt)
    (h1 : Was ss1 len1 sb pb) (h2 : Was tt (len1 + 1) sa pa) :
    (len1 = 0 ∧ lenB len1 = false ∧ lenB (len1 + 1) = true ∧ sa = ex ∧ ∃ a, pa = some a) ∨
    (len1 = 1 ∧ lenB len1 = true ∧ lenB (len1 + 1) = false ∧ sa = ⟨#[]⟩ ∧ pa = none ∧ ∃ x0, Hid (x0 = ss1.getD 0 ByteArray.empty) ∧ sb = x0) ∨
    (((len1 : Int) == 0) = false ∧ lenB len1 = false ∧ lenB (len1 + 1) = false ∧ sa = ⟨#[]⟩ ∧ pa = none) := by
  have hcount := hr.count
  rcases h2 with ⟨hl, e2, hp⟩ | ⟨hl, e2, hp⟩
  · left
    have h0 : len1 = 0 := by omega
    refine ⟨h0, by simp [lenB, h0], by simp [lenB, h0], ?_, hp⟩
    have hs : ss1 = [] := List.eq_nil_of_length_eq_zero (by omega)
    rw [e2, ← htt, hs]
    simp
  · right
    rcases h1 with ⟨hl1, e1, hp1⟩ | ⟨hl1, e1, hp1⟩
    · left
      exact ⟨hl1, by simp [lenB, hl1], by simp [lenB, hl1], e2, hp, _, rfl, e1⟩
    · right
      exact ⟨beq_eq_false_iff_ne.2 (by omega), by simp [lenB, hl1], by simp [lenB]; omega, e2, hp⟩

set_option maxHeartbeats 4000000 in
set_option maxRecDepth 100000 in
theorem more_main (a1 : Option Addr) (len1 cap1 : Nat) (ss1 : List ByteArray) (a2 : Option Addr) (len2 cap2 : Nat) (ss2 : List ByteArray) (ex : ByteArray) (c : Nat) (w : World)
    (hr1 : Row w a1 len1 ss1) (hr2 : Row w a2 len2 ss2) (l1 : len1 ≤ 4096) (l2 : len2 ≤ 4096) (hcap : len1 ≤ cap1) (hnil : a1 = none → cap1 = 0) (hc : c ≤ len1) (hex : ex.size ≤ 9223372036854775807) :
    Calls Try.prog 3 #[.slice a1 len1 cap1, .slice a2 len2 cap2, .string ex, .int .i64 c] w fun e w' => e = .returned (.bool true) ∧ Below w.heap.size w w' := by
  obtain ⟨i9, hi, hz0, hz1, hz2⟩ := info_parts Try.info9
  have Hnil : Hid (a1 = none → cap1 = 0) := hnil
  clear hnil
  go_enter Try.func3, Try.ntmps3
  go_wp2_with fail
  refine (bytes5 _ _ _ _ _ _ _ _ _ _ _ hr1 hr2 hex).mono ?_
  rintro e w' ⟨⟨ok0, rfl⟩, rfl⟩
  cases ok0
  · go_wp2_with fail
    go_ret
    exact ⟨rfl, Below.refl _ _⟩
  go_wp2_with fail
  refine (over6 a1 len1 cap1 ss1 0 _ hr1 (by omega) (by omega)).mono ?_
  rintro e w1 ⟨⟨t1, o1, rfl, t10, t11⟩, rfl⟩
  cases o1
  case true =>
    go_wp2_with fail
    go_ret
    exact ⟨rfl, Below.refl _ _⟩
  go_wp2_with fail
  refine (over6 a2 len2 cap2 ss2 t1 _ hr2 t10 t11).mono ?_
  rintro e w1 ⟨⟨t2, o2, rfl, t20, t21⟩, rfl⟩
  cases o2
  case true =>
    go_wp2_with fail
    go_ret
    exact ⟨rfl, Below.refl _ _⟩
  go_wp2_with fail
  refine (add7 t2 _ _ t20 t21 (by omega) (by omega)).mono ?_
  rintro e w1 ⟨⟨t3, o3, rfl, t30, t31⟩, rfl⟩
  cases o3
  case true =>
    go_wp2_with fail
    go_ret
    exact ⟨rfl, Below.refl _ _⟩
  clear t10 t11 t20 t21 t30 t31
  obtain ⟨w0, hw0⟩ : ∃ w0, w0 = w1 := ⟨_, rfl⟩
  subst hw0
  go_upto_region 16 with fail
  go_cut [11] (fun s11 wx => ∃ x d, s11 = .slice x 0 d ∧ wx.ownsRow w0.heap.size 9 1 (.slice x 0 d) 0 [] ∧ Below w0.heap.size w0 wx)
  case first => as_aux_lemma =>
    clear hr1 hr2 Hnil
    go_wp2_with (at_make; refine wpList_make_own _ rfl _ _ 22 rfl w0.heap.size 9 i9 (.string ⟨#[]⟩) 1 Try.underlying22 hi hz0 hz1 _ _ _ (len1 + 1) rfl rfl (by omega) (by rw [hz2]; omega) (by unfold maxLen; omega) (Nat.le_refl _) ?_)
    intro w2 hown hg
    have hb := (Below.refl w0.heap.size w0).grown hg (Nat.le_refl _) (fun k hk => by cases hk)
    clear hg
    go_wp2_with fail
    go_meet
    exact ⟨_, _, rfl, hown, hb⟩
  case rest =>
  obtain ⟨x, d, rfl, hown, hbel⟩ := hcut
  obtain ⟨W1, hW1⟩ : ∃ W1, W1 = wc := ⟨_, rfl⟩
  subst hW1
  go_upto_region 17 with fail
  go_cut [11] (fun s11 wx => ∃ x d, s11 = .slice x c d ∧ wx.ownsRow w0.heap.size 9 1 (.slice x c d) c (strCells (ss1.take c)) ∧ Below w0.heap.size w0 wx)
  case first => as_aux_lemma =>
    have hs1 := fun w => run_slice_to a1 len1 cap1 c (by omega) w
    have hrow := ((hr1.later hbel).take c hc)
    have hcount := hr1.count
    have hbsz := hbel.size
    clear hr2
    rcases a1 with _ | ad
    · obtain rfl : c = 0 := by
        rcases Nat.eq_zero_or_pos c with h | h
        · exact h
        · obtain ⟨b, off, ha, _⟩ := hrow.cells h
          cases ha
      obtain rfl : cap1 = 0 := Hnil.out rfl
      clear hr1 hrow Hnil
      go_wp2_with (at_builtin; refine wpList_append_own_none rfl _ _ 22 rfl w0.heap.size 9 i9 1 Try.underlying22 hi _ _ _ rfl hown rfl ?_)
      go_meet
      exact ⟨_, _, rfl, hown, hbel⟩
    · have hnews := row_news hrow
      have hlen : (strCells (ss1.take c)).length = c * 1 := by rw [strCells_length]; simp; omega
      clear hr1 hrow Hnil
      go_wp2_with (at_builtin; refine wpList_append_own _ rfl _ _ 22 rfl w0.heap.size 9 i9 (.string ⟨#[]⟩) 1 16 Try.underlying22 hi hz0 hz1 hz2 rfl (by decide) _ _ _ rfl hown ad c cap1 (strCells (ss1.take c)) rfl hlen hnews (strs_one _) (by unfold maxLen; omega) (by omega) hbsz ?_)
      intro v' w2 hown2 hgrow2 hnil2
      replace hown2 : w2.ownsRow w0.heap.size 9 1 v' c (strCells (ss1.take c)) := by simpa using hown2
      obtain ⟨x', c', hv'⟩ := own_shape hown2
      have hbel2 := hbel.grown hgrow2 hbsz (own_low hown)
      clear hgrow2 hnil2 hown hbel hnews hlen
      rw [hv'] at hown2 ⊢
      go_wp2_with fail
      go_meet
      exact ⟨x', c', rfl, hown2, hbel2⟩
  case rest =>
  clear hown hbel
  obtain ⟨x2, d2, rfl, hown, hbel⟩ := hcut
  obtain ⟨W2, hW2⟩ : ∃ W2, W2 = wc := ⟨_, rfl⟩
  subst hW2
  go_upto_region 18 with fail
  go_cut [11] (fun s11 wx => ∃ x d, s11 = .slice x (c + 1) d ∧ wx.ownsRow w0.heap.size 9 1 (.slice x (c + 1) d) (c + 1) (strCells (ss1.take c ++ [ex])) ∧ Below w0.heap.size w0 wx)
  case first => as_aux_lemma =>
    have hbsz := hbel.size
    clear hr1 hr2 Hnil
    go_wp2_with (at_builtin; refine wpList_append_own _ rfl _ _ 22 rfl w0.heap.size 9 i9 (.string ⟨#[]⟩) 1 16 Try.underlying22 hi hz0 hz1 hz2 rfl (by decide) _ _ _ rfl (hown.alloc _) ⟨W2.heap.size, 0, none⟩ 1 1 [.string ex] rfl rfl (one_new _ _ _) (strs_one [ex]) (by unfold maxLen; omega) (by omega) (by simp; omega) ?_)
    intro v' w2 hown2 hgrow2 hnil2
    obtain ⟨x', c', hv'⟩ := own_shape hown2
    have hbel2 := (below_more hbel (.cells #[.string ex] 9)).grown hgrow2 (by simp; omega) (own_low hown)
    have hown3 : w2.ownsRow w0.heap.size 9 1 v' (c + 1) (strCells (ss1.take c ++ [ex])) := by rw [strCells_append]; exact hown2
    clear hgrow2 hnil2 hown hbel hown2
    rw [hv'] at hown3 ⊢
    go_wp2_with fail
    go_meet
    exact ⟨x', c', rfl, hown3, hbel2⟩
  case rest =>
  clear hown hbel
  obtain ⟨x3, d3, rfl, hown, hbel⟩ := hcut
  obtain ⟨W3, hW3⟩ : ∃ W3, W3 = wc := ⟨_, rfl⟩
  subst hW3
  go_upto_region 19 with fail
  go_cut [11] (fun s11 wx => ∃ x d, s11 = .slice x (len1 + 1) d ∧ wx.ownsRow w0.heap.size 9 1 (.slice x (len1 + 1) d) (len1 + 1) (strCells (ss1.take c ++ [ex] ++ ss1.drop c)) ∧ Below w0.heap.size w0 wx)
  case first => as_aux_lemma =>
    have hs2 := fun w => run_slice_from a1 len1 cap1 c hc w
    have hrow := ((hr1.later hbel).drop cap1 c hcap hc)
    have hcount := hr1.count
    have hbsz := hbel.size
    clear hr2
    rcases a1 with _ | ad
    · obtain rfl : len1 = 0 := by
        rcases Nat.eq_zero_or_pos len1 with h | h
        · exact h
        · obtain ⟨b, off, ha, _⟩ := hr1.cells h
          cases ha
      obtain rfl : c = 0 := by omega
      obtain rfl : cap1 = 0 := Hnil.out rfl
      obtain rfl : ss1 = [] := List.eq_nil_of_length_eq_zero hcount
      clear hr1 hrow Hnil
      go_wp2_with (at_builtin; refine wpList_append_own_none rfl _ _ 22 rfl w0.heap.size 9 i9 1 Try.underlying22 hi _ _ _ rfl hown rfl ?_)
      go_meet
      exact ⟨_, _, rfl, hown, hbel⟩
    · obtain ⟨y, hy⟩ : ∃ y, (if cap1 = c then some ad else (some ad).map (·.add c)) = some y := by
        by_cases h : cap1 = c
        · exact ⟨ad, by rw [if_pos h]⟩
        · exact ⟨ad.add c, by rw [if_neg h]; rfl⟩
      rw [hy] at hs2 hrow
      clear hy
      have hnews := row_news hrow
      have hlen : (strCells (ss1.drop c)).length = (len1 - c) * 1 := by rw [strCells_length]; simp; omega
      have hadd : c + 1 + (len1 - c) = len1 + 1 := by omega
      have Hadd : Hid (c + 1 + (len1 - c) = len1 + 1) := hadd
      clear hr1 hrow Hnil hadd
      go_wp2_with (at_builtin; refine wpList_append_own _ rfl _ _ 22 rfl w0.heap.size 9 i9 (.string ⟨#[]⟩) 1 16 Try.underlying22 hi hz0 hz1 hz2 rfl (by decide) _ _ _ rfl hown y (len1 - c) (cap1 - c) (strCells (ss1.drop c)) rfl hlen hnews (strs_one _) (by unfold maxLen; omega) (by omega) hbsz ?_)
      intro v' w2 hown2 hgrow2 hnil2
      replace hown2 : w2.ownsRow w0.heap.size 9 1 v' (len1 + 1) (strCells (ss1.take c ++ [ex] ++ ss1.drop c)) := by rw [strCells_append, ← Hadd.out]; exact hown2
      obtain ⟨x', c', hv'⟩ := own_shape hown2
      have hbel2 := hbel.grown hgrow2 hbsz (own_low hown)
      clear hgrow2 hnil2 hown hbel hnews hlen
      rw [hv'] at hown2 ⊢
      go_wp2_with fail
      go_meet
      exact ⟨x', c', rfl, hown2, hbel2⟩
  case rest =>
  clear hown hbel
  obtain ⟨x4, d4, rfl, hown, hbel⟩ := hcut
  have hrowM : Row wc x4 (len1 + 1) (ss1.take c ++ [ex] ++ ss1.drop c) := row_of_own hown (by omega) (fun s hs => by
    simp only [List.append_assoc, List.cons_append, List.nil_append, List.mem_append, List.mem_cons] at hs
    rcases hs with hs | rfl | hs
    · exact hr1.size s (List.mem_of_mem_take hs)
    · exact hex
    · exact hr1.size s (List.mem_of_mem_drop hs))
  obtain ⟨W4, hW4⟩ : ∃ W4, W4 = wc := ⟨_, rfl⟩
  subst hW4
  have hrow1 := hr1.later hbel
  have hrow2 := hr2.later hbel
  clear hown hr2 Hnil
  generalize htt : ss1.take c ++ [ex] ++ ss1.drop c = tt at hrowM
  have Htt : Hid (ss1.take c ++ [ex] ++ ss1.drop c = tt) := htt
  clear htt
  go_upto_region 20 with fail
  go_cut [12, 13] (fun s9 s10 wx => ∃ k s p, s9 = .pointer (some ⟨k, 0, none⟩) ∧ s10 = .bool (lenB len1) ∧ Holds1 wx k s p ∧ Was ss1 len1 s p ∧ Below W4.heap.size W4 wx)
  case first => as_aux_lemma =>
    go_wp2_with fail
    refine (bundle9 a1 len1 cap1 ss1 a2 len2 cap2 ss2 _ hrow1 hrow2 (by omega) (by omega)).mono ?_
    rintro e w1 ⟨⟨b, m, x, c', v2, rfl, hB, h1⟩, hb1⟩
    have hcs : Hid (Calls Try.prog 8 #[.pointer (some ⟨b, 0, none⟩)] w1 fun e w' => CsvEnd ss1 len1 e ∧ Below w1.heap.size w1 w') := csv_any ss1 w1 b m x len1 c' v2 hB h1
    clear hB h1
    go_wp2_with fail
    refine hcs.out.mono ?_
    rintro e w2 ⟨⟨s, p, rfl, hwas⟩, hb2⟩
    clear hcs
    have hb3 : Below W4.heap.size W4 w2 := hb1.trans (hb2.mono hb1.size)
    clear hb1 hb2
    go_wp2_with fail
    go_meet
    exact ⟨_, s, p, rfl, rfl, Holds1.new _ s p, hwas, below_more hb3 _⟩
  case rest =>
  obtain ⟨k1, sb, pb, rfl, rfl, hk1, hwas1, hbel1⟩ := hcut
  obtain ⟨W5, hW5⟩ : ∃ W5, W5 = wc := ⟨_, rfl⟩
  subst hW5
  have hrow1b := hrow1.later hbel1
  have hrow2b := hrow2.later hbel1
  have hrowMb := hrowM.later hbel1
  clear hrow1 hrow2 hrowM
  go_upto_region 21 with fail
  go_cut [14, 15] (fun s9 s10 wx => ∃ k s p, s9 = .pointer (some ⟨k, 0, none⟩) ∧ s10 = .bool (lenB (len1 + 1)) ∧ Holds1 wx k s p ∧ Was tt (len1 + 1) s p ∧ Below W5.heap.size W5 wx)
  case first => as_aux_lemma =>
    go_wp2_with fail
    refine (bundle9 x4 (len1 + 1) d4 tt a2 len2 cap2 ss2 _ hrowMb hrow2b (by omega) (by omega)).mono ?_
    rintro e w1 ⟨⟨b, m, x, c', v2, rfl, hB, h1⟩, hb1⟩
    have hcs : Hid (Calls Try.prog 8 #[.pointer (some ⟨b, 0, none⟩)] w1 fun e w' => CsvEnd tt (len1 + 1) e ∧ Below w1.heap.size w1 w') := csv_any tt w1 b m x (len1 + 1) c' v2 hB h1
    clear hB h1
    go_wp2_with fail
    refine hcs.out.mono ?_
    rintro e w2 ⟨⟨s, p, rfl, hwas⟩, hb2⟩
    clear hcs
    have hb3 : Below W5.heap.size W5 w2 := hb1.trans (hb2.mono hb1.size)
    clear hb1 hb2
    go_wp2_with fail
    go_meet
    exact ⟨_, s, p, rfl, rfl, Holds1.new _ s p, hwas, below_more hb3 _⟩
  case rest =>
  obtain ⟨k2, sa, pa, rfl, rfl, hk2, hwas2, hbel2⟩ := hcut
  have H := more_facts hr1 Htt.out hwas1 hwas2
  obtain ⟨⟨g1, q1, r1⟩, hrow0⟩ : Holds1 wc k1 sb pb ∧ Row wc a1 len1 ss1 := ⟨hk1.later hbel2, hrow1b.later hbel2⟩
  obtain ⟨g2, q2, r2⟩ := hk2
  have hbelow : Below w0.heap.size w0 wc := (hbel.trans (hbel1.mono hbel.size)).trans (hbel2.mono (Nat.le_trans hbel.size hbel1.size))
  clear hr1 hwas1 hwas2 hbel hbel1 hbel2 hk1 hrow1b hrow2b hrowMb Htt
  rcases H with ⟨hl, e1, e2, rfl, ⟨aw, rfl⟩⟩ | ⟨hl, e1, e2, rfl, rfl, x0, hx0, rfl⟩ | ⟨n0, e1, e2, rfl, rfl⟩
  · subst hl
    clear hrow0 q1 r1
    go_wp2_with fail
    refine (path10 _ _ _).mono ?_
    rintro e w1 ⟨rfl, rfl⟩
    go_wp2_with fail
    refine (doc11_some _ _ _).mono ?_
    rintro e w1 ⟨rfl, rfl⟩
    go_wp2_with fail
    go_quiet (fail)
    go_wp2_with fail
    go_ret
    exact ⟨rfl, drawn_below (hbelow.trans ((below_more (below_more (Below.refl _ _) _) _).mono hbelow.size)) _⟩
  · subst hl
    obtain ⟨b, off, rfl, hb, hcell⟩ := hrow0.cells (by omega)
    have c0 : wc.cell? ⟨b, off, none⟩ = some (.string sb) := by rw [hx0.out]; exact hcell 0 (by omega)
    clear hcell hrow0 hx0
    go_wp2_with fail
    refine (path10 _ _ _).mono ?_
    rintro e w1 ⟨rfl, rfl⟩
    go_wp2_with fail
    refine (doc11_none _ _).mono ?_
    rintro e w1 ⟨rfl, rfl⟩
    go_wp2_with fail
    have hbw := below_more (below_more (Below.refl _ wc) (.cells #[.string ⟨#[]⟩, .pointer none] 29)) (.cells #[.string ⟨#[]⟩, .pointer none] 29)
    have c2 := (hbw.cell (p := ⟨b, off, none⟩) hb).trans c0
    have c4 := (hbw.cell (p := ⟨k1, 0, none⟩) g1).trans q1
    have c5 := (hbw.cell (p := ⟨k1, 1, none⟩) g1).trans r1
    have hbz := hbelow.trans (hbw.mono hbelow.size)
    have hb' : (⟨b, off, none⟩ : Addr).block < ((wc.alloc (.cells #[.string ⟨#[]⟩, .pointer none] 29)).alloc (.cells #[.string ⟨#[]⟩, .pointer none] 29)).heap.size := Nat.lt_of_lt_of_le hb hbw.size
    have hg' : ∀ {o : Nat}, (⟨k1, o, none⟩ : Addr).block < ((wc.alloc (.cells #[.string ⟨#[]⟩, .pointer none] 29)).alloc (.cells #[.string ⟨#[]⟩, .pointer none] 29)).heap.size := Nat.lt_of_lt_of_le g1 hbw.size
    clear c0 q1 r1 q2 r2 hbw hbelow g1 g2 hb
    generalize (wc.alloc (.cells #[.string ⟨#[]⟩, .pointer none] 29)).alloc (.cells #[.string ⟨#[]⟩, .pointer none] 29) = W6 at *
    have hmix : Try.prog.follows .mixedOrders = true := by kernel_rfl
    have d2 := fun n os => cell_grown hb' c2 n os
    have d4 := fun n os => cell_grown hg' c4 n os
    have d5 := fun n os => cell_grown hg' c5 n os
    clear c2 c4 c5 hb' hg'
    go_quiet_grown ((go_at_call 10; exact Calls.grown_of (path10g _ _ _)))
    go_wp2_with fail
    go_ret
    exact ⟨rfl, hbz.trans ((grow_below _ _ _).mono hbz.size)⟩
  · clear hrow0 q1 r1
    go_wp2_with fail
    refine (path10 _ _ _).mono ?_
    rintro e w1 ⟨rfl, rfl⟩
    go_wp2_with fail
    refine (doc11_none _ _).mono ?_
    rintro e w1 ⟨rfl, rfl⟩
    go_wp2_with fail
    go_quiet (fail)
    go_wp2_with fail
    go_ret
    exact ⟨rfl, drawn_below (hbelow.trans ((below_more (below_more (Below.refl _ _) _) _).mono hbelow.size)) _⟩

set_option maxHeartbeats 4000000 in
set_option maxRecDepth 100000 in
theorem more_law (a1 : Option Addr) (len1 cap1 : Nat) (ss1 : List ByteArray) (a2 : Option Addr) (len2 cap2 : Nat) (ss2 : List ByteArray) (ex : ByteArray) (p : Int) (w : World)
    (hr1 : Row w a1 len1 ss1) (hr2 : Row w a2 len2 ss2) (hcap : len1 ≤ cap1) (hnil : a1 = none → cap1 = 0) (hex : ex.size ≤ 9223372036854775807) :
    Calls Try.prog 3 #[.slice a1 len1 cap1, .slice a2 len2 cap2, .string ex, .int .i64 p] w fun e w' => e = .returned (.bool true) ∧ Below w.heap.size w w' := by
  have m1 := hr1.small
  have m2 := hr2.small
  have Hnil : Hid (a1 = none → cap1 = 0) := hnil
  clear hnil
  by_cases l1 : len1 ≤ 4096
  case neg =>
    go_enter Try.func3, Try.ntmps3
    go_wp2_with fail
    refine (bytes5 _ _ _ _ _ _ _ _ _ _ _ hr1 hr2 hex).mono ?_
    rintro e w' ⟨⟨ok0, rfl⟩, rfl⟩
    cases ok0
    all_goals
      go_wp2_with fail
      go_ret
      exact ⟨rfl, Below.refl _ _⟩
  by_cases l2 : len2 ≤ 4096
  case neg =>
    go_enter Try.func3, Try.ntmps3
    go_wp2_with fail
    refine (bytes5 _ _ _ _ _ _ _ _ _ _ _ hr1 hr2 hex).mono ?_
    rintro e w' ⟨⟨ok0, rfl⟩, rfl⟩
    cases ok0
    all_goals
      go_wp2_with fail
      go_ret
      exact ⟨rfl, Below.refl _ _⟩
  by_cases hin : 0 ≤ p ∧ p ≤ len1
  · obtain ⟨h0, h1⟩ := hin
    obtain ⟨c, rfl⟩ := Int.eq_ofNat_of_zero_le h0
    exact more_main a1 len1 cap1 ss1 a2 len2 cap2 ss2 ex c w hr1 hr2 l1 l2 hcap Hnil.out (by omega) hex
  · have hout : p < 0 ∨ (len1 : Int) < p := by omega
    clear hin Hnil
    rcases hout with h | h
    all_goals
      go_enter Try.func3, Try.ntmps3
      go_wp2_with fail
      refine (bytes5 _ _ _ _ _ _ _ _ _ _ _ hr1 hr2 hex).mono ?_
      rintro e w' ⟨⟨ok0, rfl⟩, rfl⟩
      cases ok0
      · go_wp2_with fail
        go_ret
        exact ⟨rfl, Below.refl _ _⟩
      go_wp2_with fail
      refine (over6 a1 len1 cap1 ss1 0 _ hr1 (by omega) (by omega)).mono ?_
      rintro e w1 ⟨⟨t1, o1, rfl, t10, t11⟩, rfl⟩
      cases o1
      case true =>
        go_wp2_with fail
        go_ret
        exact ⟨rfl, Below.refl _ _⟩
      go_wp2_with fail
      refine (over6 a2 len2 cap2 ss2 t1 _ hr2 t10 t11).mono ?_
      rintro e w1 ⟨⟨t2, o2, rfl, t20, t21⟩, rfl⟩
      cases o2
      case true =>
        go_wp2_with fail
        go_ret
        exact ⟨rfl, Below.refl _ _⟩
      go_wp2_with fail
      refine (add7 t2 _ _ t20 t21 (by omega) (by omega)).mono ?_
      rintro e w1 ⟨⟨t3, o3, rfl, t30, t31⟩, rfl⟩
      cases o3
      all_goals
        go_wp2_with fail
        go_ret
        exact ⟨rfl, Below.refl _ _⟩
end Go.Proofs.Qxb6615923a
