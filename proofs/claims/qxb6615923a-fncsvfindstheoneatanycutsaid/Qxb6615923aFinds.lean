/-
  THE WALK OF FnCsvFindsTheOneAtAnyCut.
-/
import Derived.Test.Qxb6615923aCsv
import Derived.Deep.DeepCutAuto
namespace Go.Proofs.Qxb6615923a
open Go.RowKit

/-- The three ways: one CSV and all of it on the left; one and all of it on the right; none or several. -/
theorem finds_facts {w : World} {a1 : Option Addr} {len1 : Nat} {ss1 : List ByteArray} {c : Nat} {sw sl sr : ByteArray} {pw pl pr : Option Addr} (hr : Row w a1 len1 ss1) (hc : c ≤ len1)
    (h1 : Was ss1 len1 sw pw) (h2 : Was (ss1.take c) c sl pl) (h3 : Was (ss1.drop c) (len1 - c) sr pr) :
    (len1 = 1 ∧ c = 1 ∧ lenB len1 = true ∧ lenB c = true ∧ lenB (len1 - c) = false ∧ ∃ x0, Hid (x0 = ss1.getD 0 ByteArray.empty) ∧ sw = x0 ∧ (∃ a, pw = some a) ∧ sl = x0) ∨
    (len1 = 1 ∧ c = 0 ∧ lenB len1 = true ∧ lenB c = false ∧ lenB (len1 - c) = true ∧ ∃ x0, Hid (x0 = ss1.getD 0 ByteArray.empty) ∧ sw = x0 ∧ (∃ a, pw = some a) ∧ sr = x0) ∨
    (((len1 : Int) == 1) = false ∧ lenB len1 = false ∧ sw = ⟨#[]⟩ ∧ pw = none ∧
      ((lenB c = true ∧ ((c : Int) == (len1 : Int)) = false ∧ ((c : Int) == 0) = false) ∨ (lenB c = false ∧ lenB (len1 - c) = true ∧ ((c : Int) == 0) = false) ∨ (lenB c = false ∧ lenB (len1 - c) = false))) := by
  have hcount := hr.count
  rcases h1 with ⟨hl, e1, hp⟩ | ⟨hl, e1, hp⟩
  · have : c = 1 ∨ c = 0 := by omega
    rcases this with hc1 | hc1
    · left
      rcases h2 with ⟨_, e2, _⟩ | ⟨hn, _, _⟩
      · refine ⟨hl, hc1, by simp [lenB, hl], by simp [lenB, hc1], by simp [lenB, hl, hc1], _, rfl, e1, hp, ?_⟩
        rw [e2, hc1]
        rcases ss1 with _ | ⟨y, ys⟩ <;> rfl
      · exact absurd hc1 hn
    · right; left
      rcases h3 with ⟨_, e3, _⟩ | ⟨hn, _, _⟩
      · refine ⟨hl, hc1, by simp [lenB, hl], by simp [lenB, hc1], by simp [lenB, hl, hc1], _, rfl, e1, hp, ?_⟩
        rw [e3, hc1]
        rfl
      · omega
  · right; right
    refine ⟨beq_eq_false_iff_ne.2 (by omega), by simp [lenB, hl], e1, hp, ?_⟩
    by_cases h1c : c = 1
    · left
      exact ⟨by simp [lenB, h1c], beq_eq_false_iff_ne.2 (by omega), beq_eq_false_iff_ne.2 (by omega)⟩
    · right
      by_cases h1r : len1 - c = 1
      · left
        exact ⟨by simp [lenB, h1c], by simp [lenB, h1r], beq_eq_false_iff_ne.2 (by omega)⟩
      · right
        exact ⟨by simp [lenB, h1c], by simp [lenB, h1r]⟩

set_option maxHeartbeats 4000000 in
set_option maxRecDepth 100000 in
theorem finds_main (a1 : Option Addr) (len1 cap1 : Nat) (ss1 : List ByteArray) (a2 : Option Addr) (len2 cap2 : Nat) (ss2 : List ByteArray) (c : Nat) (w : World)
    (hr1 : Row w a1 len1 ss1) (hr2 : Row w a2 len2 ss2) (l1 : len1 ≤ 4096) (l2 : len2 ≤ 4096) (hcap : len1 ≤ cap1) (hc : c ≤ len1) :
    Calls Try.prog 4 #[.slice a1 len1 cap1, .slice a2 len2 cap2, .int .i64 c] w fun e w' => e = .returned (.bool true) ∧ Below w.heap.size w w' := by
  have hs1 := fun w => run_slice_to a1 len1 cap1 c (by omega) w
  obtain ⟨a3, hs2, hrow3⟩ : ∃ a3, (∀ w, (Instr.slice 22 (.slice a1 len1 cap1) (some (.int .i64 c)) none none).run Try.prog w = .ok (.slice a3 (len1 - c) (cap1 - c)) w) ∧ Hid (∀ w, Row w a1 len1 ss1 → Row w a3 (len1 - c) (ss1.drop c)) :=
    ⟨_, fun w => run_slice_from a1 len1 cap1 c hc w, fun w h => h.drop cap1 c hcap hc⟩
  go_enter Try.func4, Try.ntmps4
  go_wp2_with fail
  refine (bytes12 _ _ _ _ _ _ _ _ _ _ hr1 hr2).mono ?_
  rintro e w' ⟨⟨ok0, rfl⟩, rfl⟩
  cases ok0
  · go_wp2_with fail
    go_ret
    exact ⟨rfl, Below.refl _ _⟩
  go_wp2_with fail
  refine (over6 a1 len1 cap1 ss1 0 _ hr1 (by omega) (by omega)).mono ?_
  rintro e w1 ⟨⟨t1, o1, rfl, t10, t11⟩, rfl⟩
  cases o1
  case true =>
    go_wp2_with fail
    go_ret
    exact ⟨rfl, Below.refl _ _⟩
  go_wp2_with fail
  refine (over6 a2 len2 cap2 ss2 t1 _ hr2 t10 t11).mono ?_
  rintro e w1 ⟨⟨t2, o2, rfl, t20, t21⟩, rfl⟩
  cases o2
  case true =>
    go_wp2_with fail
    go_ret
    exact ⟨rfl, Below.refl _ _⟩
  clear t10 t11 t20 t21
  obtain ⟨w0, hw0⟩ : ∃ w0, w0 = w1 := ⟨_, rfl⟩
  subst hw0
  go_upto_region 13 with fail
  go_cut [9, 10] (fun s9 s10 wx => ∃ k s p, s9 = .pointer (some ⟨k, 0, none⟩) ∧ s10 = .bool (lenB len1) ∧ Holds1 wx k s p ∧ Was ss1 len1 s p ∧ Below w0.heap.size w0 wx)
  case first => as_aux_lemma =>
    go_wp2_with fail
    refine (bundle9 a1 len1 cap1 ss1 a2 len2 cap2 ss2 _ hr1 hr2 (by omega) (by omega)).mono ?_
    rintro e w1 ⟨⟨b, m, x, c', v2, rfl, hB, h1⟩, hb1⟩
    have hcs : Hid (Calls Try.prog 8 #[.pointer (some ⟨b, 0, none⟩)] w1 fun e w' => CsvEnd ss1 len1 e ∧ Below w1.heap.size w1 w') := csv_any ss1 w1 b m x len1 c' v2 hB h1
    clear hB h1
    go_wp2_with fail
    refine hcs.out.mono ?_
    rintro e w2 ⟨⟨s, p, rfl, hwas⟩, hb2⟩
    clear hcs
    have hb3 : Below w0.heap.size w0 w2 := hb1.trans (hb2.mono hb1.size)
    clear hb1 hb2
    go_wp2_with fail
    go_meet
    exact ⟨_, s, p, rfl, rfl, Holds1.new _ s p, hwas, below_more hb3 _⟩
  case rest =>
  obtain ⟨k1, sw, pw, rfl, rfl, hk1, hwas1, hbel1⟩ := hcut
  obtain ⟨W1, hW1⟩ : ∃ W1, W1 = wc := ⟨_, rfl⟩
  subst hW1
  have hrow1 := hr1.later hbel1
  have hrow2 := hr2.later hbel1
  go_upto_region 14 with fail
  go_cut [11, 12] (fun s9 s10 wx => ∃ k s p, s9 = .pointer (some ⟨k, 0, none⟩) ∧ s10 = .bool (lenB c) ∧ Holds1 wx k s p ∧ Was (ss1.take c) c s p ∧ Below W1.heap.size W1 wx)
  case first => as_aux_lemma =>
    go_wp2_with fail
    refine (bundle9 a1 c cap1 (ss1.take c) a2 len2 cap2 ss2 _ (hrow1.take c hc) hrow2 (by omega) (by omega)).mono ?_
    rintro e w1 ⟨⟨b, m, x, c', v2, rfl, hB, h1⟩, hb1⟩
    have hcs : Hid (Calls Try.prog 8 #[.pointer (some ⟨b, 0, none⟩)] w1 fun e w' => CsvEnd (ss1.take c) c e ∧ Below w1.heap.size w1 w') := csv_any (ss1.take c) w1 b m x c c' v2 hB h1
    clear hB h1
    go_wp2_with fail
    refine hcs.out.mono ?_
    rintro e w2 ⟨⟨s, p, rfl, hwas⟩, hb2⟩
    clear hcs
    have hb3 : Below W1.heap.size W1 w2 := hb1.trans (hb2.mono hb1.size)
    clear hb1 hb2
    go_wp2_with fail
    go_meet
    exact ⟨_, s, p, rfl, rfl, Holds1.new _ s p, hwas, below_more hb3 _⟩
  case rest =>
  obtain ⟨k2, sl, pl, rfl, rfl, hk2, hwas2, hbel2⟩ := hcut
  obtain ⟨W2, hW2⟩ : ∃ W2, W2 = wc := ⟨_, rfl⟩
  subst hW2
  have hrow1b := hrow1.later hbel2
  have hrow2b := hrow2.later hbel2
  clear hrow1 hrow2
  go_upto_region 15 with fail
  go_cut [13, 14] (fun s9 s10 wx => ∃ k s p, s9 = .pointer (some ⟨k, 0, none⟩) ∧ s10 = .bool (lenB (len1 - c)) ∧ Holds1 wx k s p ∧ Was (ss1.drop c) (len1 - c) s p ∧ Below W2.heap.size W2 wx)
  case first => as_aux_lemma =>
    go_wp2_with fail
    refine (bundle9 a3 (len1 - c) (cap1 - c) (ss1.drop c) a2 len2 cap2 ss2 _ (hrow3.out _ hrow1b) hrow2b (by omega) (by omega)).mono ?_
    rintro e w1 ⟨⟨b, m, x, c', v2, rfl, hB, h1⟩, hb1⟩
    have hcs : Hid (Calls Try.prog 8 #[.pointer (some ⟨b, 0, none⟩)] w1 fun e w' => CsvEnd (ss1.drop c) (len1 - c) e ∧ Below w1.heap.size w1 w') := csv_any (ss1.drop c) w1 b m x (len1 - c) c' v2 hB h1
    clear hB h1
    go_wp2_with fail
    refine hcs.out.mono ?_
    rintro e w2 ⟨⟨s, p, rfl, hwas⟩, hb2⟩
    clear hcs
    have hb3 : Below W2.heap.size W2 w2 := hb1.trans (hb2.mono hb1.size)
    clear hb1 hb2
    go_wp2_with fail
    go_meet
    exact ⟨_, s, p, rfl, rfl, Holds1.new _ s p, hwas, below_more hb3 _⟩
  case rest =>
  obtain ⟨k3, sr, pr, rfl, rfl, hk3, hwas3, hbel3⟩ := hcut
  have H := finds_facts hr1 hc hwas1 hwas2 hwas3
  obtain ⟨⟨g1, q1, r1⟩, ⟨g2, q2, r2⟩, hrow0⟩ : Holds1 wc k1 sw pw ∧ Holds1 wc k2 sl pl ∧ Row wc a1 len1 ss1 := ⟨(hk1.later hbel2).later hbel3, hk2.later hbel3, hrow1b.later hbel3⟩
  obtain ⟨g3, q3, r3⟩ := hk3
  have hbelow : Below w0.heap.size w0 wc := (hbel1.trans (hbel2.mono hbel1.size)).trans (hbel3.mono (Nat.le_trans hbel1.size hbel2.size))
  clear hr1 hr2 hwas1 hwas2 hwas3 hbel1 hbel2 hbel3 hk1 hk2 hrow1b hrow2b hrow3 hs1 hs2
  rcases H with ⟨hl, hc1, e1, e2, e3, x0, hx0, rfl, ⟨aw, rfl⟩, rfl⟩ | ⟨hl, hc1, e1, e2, e3, x0, hx0, rfl, ⟨aw, rfl⟩, rfl⟩ | ⟨hl, e1, rfl, rfl, hcc⟩
  · subst hl
    subst hc1
    obtain ⟨b, off, rfl, hb, hcell⟩ := hrow0.cells (by omega)
    have c0 : wc.cell? ⟨b, off, none⟩ = some (.string sl) := by rw [hx0.out]; exact hcell 0 (by omega)
    have c3 : ∀ o1 o2 o3, (((wc.alloc o1).alloc o2).alloc o3).cell? ⟨b, off, none⟩ = some (.string sl) := fun o1 o2 o3 => ((below_more (below_more (below_more (Below.refl _ wc) o1) o2) o3).cell (p := ⟨b, off, none⟩) hb).trans c0
    clear c0
    clear hcell hrow0 hx0 q3 r3
    go_wp2_with fail
    refine (path10 _ _ _).mono ?_
    rintro e w1 ⟨rfl, rfl⟩
    go_wp2_with fail
    refine (path10 _ _ _).mono ?_
    rintro e w1 ⟨rfl, rfl⟩
    go_wp2_with fail
    refine (doc11_some _ _ _).mono ?_
    rintro e w1 ⟨rfl, rfl⟩
    go_wp2_with fail
    go_ret
    exact ⟨rfl, hbelow.trans ((below_more (below_more (below_more (Below.refl _ _) _) _) _).mono hbelow.size)⟩
  · subst hl
    subst hc1
    obtain ⟨b, off, rfl, hb, hcell⟩ := hrow0.cells (by omega)
    have c0 : wc.cell? ⟨b, off, none⟩ = some (.string sr) := by rw [hx0.out]; exact hcell 0 (by omega)
    have c3 : ∀ o1 o2 o3, (((wc.alloc o1).alloc o2).alloc o3).cell? ⟨b, off, none⟩ = some (.string sr) := fun o1 o2 o3 => ((below_more (below_more (below_more (Below.refl _ wc) o1) o2) o3).cell (p := ⟨b, off, none⟩) hb).trans c0
    clear c0
    clear hcell hrow0 hx0 q2 r2
    go_wp2_with fail
    refine (path10 _ _ _).mono ?_
    rintro e w1 ⟨rfl, rfl⟩
    go_wp2_with fail
    refine (path10 _ _ _).mono ?_
    rintro e w1 ⟨rfl, rfl⟩
    go_wp2_with fail
    refine (doc11_some _ _ _).mono ?_
    rintro e w1 ⟨rfl, rfl⟩
    go_wp2_with fail
    go_ret
    exact ⟨rfl, hbelow.trans ((below_more (below_more (below_more (Below.refl _ _) _) _) _).mono hbelow.size)⟩
  · clear hrow0 q2 r2 q3 r3
    obtain ⟨b3, hb3⟩ : ∃ b3, lenB (len1 - c) = b3 := ⟨_, rfl⟩
    rcases hcc with ⟨e2, n1, n2⟩ | ⟨e2, e3, n2⟩ | ⟨e2, e3⟩
    · cases b3
      all_goals
        go_wp2_with fail
        refine (path10 _ _ _).mono ?_
        rintro e w1 ⟨rfl, rfl⟩
        go_wp2_with fail
        refine (doc11_none _ _).mono ?_
        rintro e w1 ⟨rfl, rfl⟩
        go_wp2_with fail
        go_ret
        exact ⟨rfl, hbelow.trans ((below_more (below_more (Below.refl _ _) _) _).mono hbelow.size)⟩
    all_goals
      clear hb3
      go_wp2_with fail
      refine (path10 _ _ _).mono ?_
      rintro e w1 ⟨rfl, rfl⟩
      go_wp2_with fail
      refine (doc11_none _ _).mono ?_
      rintro e w1 ⟨rfl, rfl⟩
      go_wp2_with fail
      go_ret
      exact ⟨rfl, hbelow.trans ((below_more (below_more (Below.refl _ _) _) _).mono hbelow.size)⟩

set_option maxHeartbeats 4000000 in
set_option maxRecDepth 100000 in
theorem finds_law (a1 : Option Addr) (len1 cap1 : Nat) (ss1 : List ByteArray) (a2 : Option Addr) (len2 cap2 : Nat) (ss2 : List ByteArray) (cut : Int) (w : World)
    (hr1 : Row w a1 len1 ss1) (hr2 : Row w a2 len2 ss2) (hcap : len1 ≤ cap1) :
    Calls Try.prog 4 #[.slice a1 len1 cap1, .slice a2 len2 cap2, .int .i64 cut] w fun e w' => e = .returned (.bool true) ∧ Below w.heap.size w w' := by
  have m1 := hr1.small
  have m2 := hr2.small
  by_cases l1 : len1 ≤ 4096
  case neg =>
    go_enter Try.func4, Try.ntmps4
    go_wp2_with fail
    refine (bytes12 _ _ _ _ _ _ _ _ _ _ hr1 hr2).mono ?_
    rintro e w' ⟨⟨ok0, rfl⟩, rfl⟩
    cases ok0
    all_goals
      go_wp2_with fail
      go_ret
      exact ⟨rfl, Below.refl _ _⟩
  by_cases l2 : len2 ≤ 4096
  case neg =>
    go_enter Try.func4, Try.ntmps4
    go_wp2_with fail
    refine (bytes12 _ _ _ _ _ _ _ _ _ _ hr1 hr2).mono ?_
    rintro e w' ⟨⟨ok0, rfl⟩, rfl⟩
    cases ok0
    all_goals
      go_wp2_with fail
      go_ret
      exact ⟨rfl, Below.refl _ _⟩
  by_cases hin : 0 ≤ cut ∧ cut ≤ len1
  · obtain ⟨h0, h1⟩ := hin
    obtain ⟨c, rfl⟩ := Int.eq_ofNat_of_zero_le h0
    exact finds_main a1 len1 cap1 ss1 a2 len2 cap2 ss2 c w hr1 hr2 l1 l2 hcap (by omega)
  · have hout : cut < 0 ∨ (len1 : Int) < cut := by omega
    clear hin
    rcases hout with h | h
    all_goals
      go_enter Try.func4, Try.ntmps4
      go_wp2_with fail
      refine (bytes12 _ _ _ _ _ _ _ _ _ _ hr1 hr2).mono ?_
      rintro e w' ⟨⟨ok0, rfl⟩, rfl⟩
      cases ok0
      · go_wp2_with fail
        go_ret
        exact ⟨rfl, Below.refl _ _⟩
      go_wp2_with fail
      refine (over6 a1 len1 cap1 ss1 0 _ hr1 (by omega) (by omega)).mono ?_
      rintro e w1 ⟨⟨t1, o1, rfl, t10, t11⟩, rfl⟩
      cases o1
      case true =>
        go_wp2_with fail
        go_ret
        exact ⟨rfl, Below.refl _ _⟩
      go_wp2_with fail
      refine (over6 a2 len2 cap2 ss2 t1 _ hr2 t10 t11).mono ?_
      rintro e w1 ⟨⟨t2, o2, rfl, t20, t21⟩, rfl⟩
      cases o2
      all_goals
        go_wp2_with fail
        go_ret
        exact ⟨rfl, Below.refl _ _⟩
end Go.Proofs.Qxb6615923a
