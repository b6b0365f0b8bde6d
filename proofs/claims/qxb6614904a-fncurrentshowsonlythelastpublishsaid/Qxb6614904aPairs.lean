/-
  distinctPairs, releasesAre: the plain laws and the walks.
-/
import Derived.Test.Qxb6614904aBase
namespace Go.Proofs.Qxb6614904a
open Go.RowKit

/-- A slice's cells are the f's of the list's pairs. -/
def HoldsF (q : IntKind) (w : World) (a : Option Addr) (f : Int × Int → Int) (acc : List (Int × Int)) : Prop :=
  0 < acc.length → ∃ b off, a = some ⟨b, off, none⟩ ∧ b < w.heap.size ∧ ∀ i, i < acc.length → w.cell? ⟨b, off + i, none⟩ = some (.int q (f (acc.getD i (0, 0))))

theorem HoldsF.kept {S : List Nat} {q : IntKind} {w w' : World} {a : Option Addr} {f : Int × Int → Int} {acc : List (Int × Int)} (h : HoldsF q w a f acc) (hk : Kept S w w') (hS : ∀ x, a = some x → x.block ∉ S) : HoldsF q w' a f acc := fun h0 => by
  obtain ⟨b, off, rfl, hb, hc⟩ := h h0
  exact ⟨b, off, rfl, Nat.lt_of_lt_of_le hb hk.size, fun i hi => (hk.cell (p := ⟨b, off + i, none⟩) hb (hS ⟨b, off, none⟩ rfl)).trans (hc i hi)⟩

def dcount : List (Int × Int) → Nat
  | [] => 0
  | x :: r => (if x ∈ r then 0 else 1) + dcount r

theorem dcount_drop (acc : List (Int × Int)) (k : Nat) (h : k < acc.length) : dcount (acc.drop k) = (if acc.getD k (0, 0) ∈ acc.drop (k + 1) then 0 else 1) + dcount (acc.drop (k + 1)) := by
  rw [List.drop_eq_getElem_cons h, dcount]
  simp [List.getD_eq_getElem?_getD, h]
theorem dcount_le : ∀ acc : List (Int × Int), dcount acc ≤ acc.length
  | [] => Nat.le_refl _
  | x :: r => by
    have := dcount_le r
    simp only [dcount, List.length_cons]
    split <;> omega

theorem len_dcount : ∀ (acc L : List (Int × Int)), L.Nodup → (∀ x, x ∈ L ↔ x ∈ acc) → L.length = dcount acc
  | [], L, _, h => by
    cases L with
    | nil => rfl
    | cons y r => exact absurd ((h y).1 (by simp)) (by simp)
  | x :: r, L, hn, h => by
    rw [dcount]
    by_cases hx : x ∈ r
    · rw [if_pos hx, len_dcount r L hn (fun y => by
        rw [h y]
        constructor
        · intro hy
          rcases List.mem_cons.1 hy with rfl | hy
          · exact hx
          · exact hy
        · exact fun hy => List.mem_cons_of_mem _ hy)]
      omega
    · rw [if_neg hx]
      have hxL : x ∈ L := (h x).2 (by simp)
      have := len_dcount r (L.erase x) (hn.erase x) (fun y => by
        rw [hn.mem_erase_iff, h y]
        constructor
        · rintro ⟨h1, h2⟩
          rcases List.mem_cons.1 h2 with h2 | h2
          · exact absurd h2 h1
          · exact h2
        · exact fun hy => ⟨fun e => hx (e ▸ hy), List.mem_cons_of_mem _ hy⟩)
      rw [← this, List.length_erase_of_mem hxL]
      have : 0 < L.length := List.length_pos_of_mem hxL
      omega

theorem mem_drop_of {acc : List (Int × Int)} {k t : Nat} (h1 : k < t) (h2 : t < acc.length) : acc.getD t (0, 0) ∈ acc.drop (k + 1) := by
  refine List.mem_iff_getElem?.2 ⟨t - (k + 1), ?_⟩
  rw [List.getElem?_drop, show k + 1 + (t - (k + 1)) = t by omega]
  simp [List.getD_eq_getElem?_getD, h2]
theorem not_mem_drop_of {acc : List (Int × Int)} {k : Nat} {x : Int × Int} (h : ∀ t, k < t → t < acc.length → acc.getD t (0, 0) ≠ x) : x ∉ acc.drop (k + 1) := fun hm => by
  obtain ⟨j, hj⟩ := List.mem_iff_getElem?.1 hm
  rw [List.getElem?_drop] at hj
  have hlt : k + 1 + j < acc.length := (List.getElem?_eq_some_iff.1 hj).1
  refine h (k + 1 + j) (by omega) hlt ?_
  simp [List.getD_eq_getElem?_getD, hj]
theorem mem_of_at {acc : List (Int × Int)} {t : Nat} (h2 : t < acc.length) : acc.getD t (0, 0) ∈ acc :=
  List.mem_iff_getElem?.2 ⟨t, by simp [List.getD_eq_getElem?_getD, h2]⟩
theorem not_mem_of {acc : List (Int × Int)} {x : Int × Int} (h : ∀ t, t < acc.length → acc.getD t (0, 0) ≠ x) : x ∉ acc := fun hm => by
  obtain ⟨j, hj⟩ := List.mem_iff_getElem?.1 hm
  exact h j (List.getElem?_eq_some_iff.1 hj).1 (by simp [List.getD_eq_getElem?_getD, hj])
theorem asc_nodup {L : List (Int × Int)} (h : L.Pairwise fun x y => x.2 < y.2 ∨ (x.2 = y.2 ∧ x.1 < y.1)) : L.Nodup :=
  List.pairwise_iff_getElem.2 fun i j hi hj hij e => by
    have := (List.pairwise_iff_getElem.1 h) i j hi hj hij
    rw [e] at this
    omega
theorem asc_at {L : List (Int × Int)} (h : L.Pairwise fun x y => x.2 < y.2 ∨ (x.2 = y.2 ∧ x.1 < y.1)) {k : Nat} (h0 : 0 < k) (h1 : k < L.length) :
    (L.getD (k - 1) (0, 0)).2 < (L.getD k (0, 0)).2 ∨ ((L.getD (k - 1) (0, 0)).2 = (L.getD k (0, 0)).2 ∧ (L.getD (k - 1) (0, 0)).1 < (L.getD k (0, 0)).1) := by
  have := (List.pairwise_iff_getElem.1 h) (k - 1) k (by omega) h1 (by omega)
  simpa [List.getD_eq_getElem?_getD, h1, show k - 1 < L.length by omega] using this

/-- The two slices of one list of pairs, both of its length. -/
structure Two (w : World) (a b : Option Addr) (acc : List (Int × Int)) : Prop where
  one : HoldsF .i64 w a Prod.fst acc
  two : HoldsF .u64 w b Prod.snd acc
theorem Two.kept {S : List Nat} {w w' : World} {a b : Option Addr} {acc : List (Int × Int)} (h : Two w a b acc) (hk : Kept S w w') (ha : ∀ x, a = some x → x.block ∉ S) (hb : ∀ x, b = some x → x.block ∉ S) : Two w' a b acc := ⟨h.one.kept hk ha, h.two.kept hk hb⟩
theorem Two.kept0 {w w' : World} {a b : Option Addr} {acc : List (Int × Int)} (h : Two w a b acc) (hk : Kept [] w w') : Two w' a b acc := h.kept hk (by simp) (by simp)
theorem Two.cells {w : World} {a b : Option Addr} {acc : List (Int × Int)} (h : Two w a b acc) (h0 : 0 < acc.length) : ∃ b1 o1 b2 o2, a = some ⟨b1, o1, none⟩ ∧ b = some ⟨b2, o2, none⟩ ∧
    (∀ i, i < acc.length → w.cell? ⟨b1, o1 + i, none⟩ = some (.int .i64 (acc.getD i (0, 0)).1)) ∧ (∀ i, i < acc.length → w.cell? ⟨b2, o2 + i, none⟩ = some (.int .u64 (acc.getD i (0, 0)).2)) := by
  obtain ⟨b1, o1, ha, _, h1⟩ := h.one h0
  obtain ⟨b2, o2, hb, _, h2⟩ := h.two h0
  exact ⟨b1, o1, b2, o2, ha, hb, h1, h2⟩

set_option maxHeartbeats 4000000 in
theorem distinct16 (a : Option Addr) (cap : Nat) (b : Option Addr) (cap2 : Nat) (acc : List (Int × Int)) (w : World) (h : Two w a b acc) (hlen : acc.length ≤ 8192) :
    Calls Try.prog 16 #[.slice a acc.length cap, .slice b acc.length cap2] w fun e w' => e = .returned (.int .i64 (dcount acc)) ∧ Kept [] w w' := by
  have H : Hid (Two w a b acc) := h
  obtain ⟨n, hn⟩ : ∃ n, n = acc.length := ⟨_, rfl⟩
  rw [← hn]
  have Hn : Hid (n = acc.length) := hn
  have hn' : n ≤ 8192 := by omega
  clear hn h hlen
  go_enter Try.func16, Try.ntmps16
  go_wp2
  go_loopw [5, 6] (fun c i wr => ∃ (k t : Nat), k ≤ n ∧ t ≤ k ∧ i = .int .i64 k ∧ c = .int .i64 t ∧ Hid (t + dcount (acc.drop k) = dcount acc) ∧ Kept [] w wr) (fun _ i _ => n - (intOf i).toNat)
  case atStart => exact ⟨0, 0, Nat.zero_le _, Nat.le_refl _, rfl, rfl, by simp [Hid], Kept.refl _ _⟩
  case round =>
    obtain ⟨k, t, hk, ht, rfl, rfl, hd, hK⟩ := hrel
    by_cases hlt : k < n
    · obtain ⟨b1, o1, b2, o2, ea, eb, c1, c2⟩ := (H.out.kept0 hK).cells (by have := Hn.out; omega)
      obtain ⟨⟨x1, x2⟩, hx⟩ : ∃ x, acc.getD k (0, 0) = x := ⟨_, rfl⟩
      have Hx : Hid (acc.getD k (0, 0) = (x1, x2)) := hx
      have C1 : Hid (∀ i, i < n → wr.cell? ⟨b1, o1 + i, none⟩ = some (.int .i64 (acc.getD i (0, 0)).1)) := by rw [Hn.out]; exact c1
      have C2 : Hid (∀ i, i < n → wr.cell? ⟨b2, o2 + i, none⟩ = some (.int .u64 (acc.getD i (0, 0)).2)) := by rw [Hn.out]; exact c2
      have ck1 : wr.cell? ⟨b1, o1 + k, none⟩ = some (.int .i64 x1) := by rw [C1.out k hlt, hx]
      have ck2 : wr.cell? ⟨b2, o2 + k, none⟩ = some (.int .u64 x2) := by rw [C2.out k hlt, hx]
      clear c1 c2 hx
      subst ea eb
      go_wp2
      go_loopw [7, 8] (fun s j wq => ∃ (m : Nat) (sb : Bool), k + 1 ≤ m ∧ m ≤ n ∧ j = .int .i64 m ∧ s = .bool sb ∧ Hid ((sb = true → (x1, x2) ∈ acc.drop (k + 1)) ∧ (sb = false → ∀ t, k < t → t < m → acc.getD t (0, 0) ≠ (x1, x2))) ∧ ∃ q, wq = wr.drewN q) (fun _ j _ => n - (intOf j).toNat)
      case atStart => exact ⟨k + 1, false, Nat.le_refl _, by omega, by go_num, rfl, ⟨by simp, fun _ t h1 h2 => by omega⟩, 0, rfl⟩
      case round =>
        obtain ⟨m, sb, hm1, hm2, rfl, rfl, hI, q, rfl⟩ := hrel
        cases sb
        · by_cases hm : m < n
          · obtain ⟨⟨y1, y2⟩, hy⟩ : ∃ y, acc.getD m (0, 0) = y := ⟨_, rfl⟩
            have Hy : Hid (acc.getD m (0, 0) = (y1, y2)) := hy
            have cm1 : wr.cell? ⟨b1, o1 + m, none⟩ = some (.int .i64 y1) := by rw [C1.out m hm, hy]
            have cm2 : wr.cell? ⟨b2, o2 + m, none⟩ = some (.int .u64 y2) := by rw [C2.out m hm, hy]
            clear hy
            by_cases e1 : y1 = x1
            · subst e1
              by_cases e2 : y2 = x2
              · subst e2
                go_wp2
                go_quiet (fail)
                go_wp2
                go_roundw
                case rel => exact ⟨m + 1, true, by omega, by omega, by go_num, rfl, ⟨fun _ => by rw [← Hy.out]; exact mem_drop_of (by omega) (by rw [← Hn.out]; exact hm), by simp⟩, _, rfl⟩
                case measure => simp [intOf]; omega
              · have hd1 : (y2 == x2) = false := by simpa using e2
                have hd2 : decide (y2 = x2) = false := by simpa using e2
                go_wp2
                go_quiet (fail)
                go_wp2
                go_roundw
                case rel => exact ⟨m + 1, false, by omega, by omega, by go_num, rfl, ⟨by simp, fun _ t h1 h2 => by
                  rcases Nat.lt_or_ge t m with h | h
                  · exact hI.out.2 (by first | trivial | rfl) t h1 h
                  · obtain rfl : t = m := by omega
                    rw [Hy.out]; intro e; exact e2 (congrArg Prod.snd e)⟩, _, rfl⟩
                case measure => simp [intOf]; omega
            · have hd1 : (y1 == x1) = false := by simpa using e1
              have hd2 : decide (y1 = x1) = false := by simpa using e1
              go_wp2
              go_quiet (fail)
              go_wp2
              go_roundw
              case rel => exact ⟨m + 1, false, by omega, by omega, by go_num, rfl, ⟨by simp, fun _ t h1 h2 => by
                rcases Nat.lt_or_ge t m with h | h
                · exact hI.out.2 (by first | trivial | rfl) t h1 h
                · obtain rfl : t = m := by omega
                  rw [Hy.out]; intro e; exact e1 (congrArg Prod.fst e)⟩, _, rfl⟩
              case measure => simp [intOf]; omega
          · go_wp2
            go_roundw
            case rel =>
              refine ⟨k + 1, t + 1, by omega, by omega, by go_num, by go_num, ?_, hK.drewN q⟩
              have hd' := hd.out
              rw [dcount_drop acc k (by have := Hn.out; omega), if_neg (by rw [Hx.out]; exact not_mem_drop_of (fun t h1 h2 => hI.out.2 (by first | trivial | rfl) t h1 (by have := Hn.out; omega)))] at hd'
              show t + 1 + _ = _
              omega
            case measure => simp [intOf]; omega
        · have hend : Hid (t + dcount (acc.drop (k + 1)) = dcount acc) := by
            have hd' := hd.out
            rw [dcount_drop acc k (by have := Hn.out; omega), if_pos (by rw [Hx.out]; exact hI.out.1 (by first | trivial | rfl))] at hd'
            show t + _ = _
            omega
          by_cases hm : m < n
          · go_wp2
            go_roundw
            case rel => exact ⟨k + 1, t, by omega, by omega, by go_num, rfl, hend, hK.drewN q⟩
            case measure => simp [intOf]; omega
          · go_wp2
            go_roundw
            case rel => exact ⟨k + 1, t, by omega, by omega, by go_num, rfl, hend, hK.drewN q⟩
            case measure => simp [intOf]; omega
    · go_wp2
      go_ret
      obtain rfl : k = n := by omega
      exact ⟨by have := hd.out; rw [Hn.out, List.drop_length] at this; simp [dcount] at this; rw [← this]; rfl, hK⟩

set_option maxRecDepth 100000 in
set_option maxHeartbeats 8000000 in
theorem are12 (a : Option Addr) (cap : Nat) (b : Option Addr) (cap2 : Nat) (L : List (Int × Int)) (c : Option Addr) (cap3 : Nat) (d : Option Addr) (cap4 : Nat) (acc : List (Int × Int)) (w : World)
    (h : Two w a b L) (h' : Two w c d acc) (hlen : acc.length ≤ 8192) (hL : L.Pairwise fun x y => x.2 < y.2 ∨ (x.2 = y.2 ∧ x.1 < y.1)) (hm : ∀ x, x ∈ L ↔ x ∈ acc) :
    Calls Try.prog 12 #[.slice a L.length cap, .slice b L.length cap2, .slice c acc.length cap3, .slice d acc.length cap4] w fun e w' => e = .returned (.bool true) ∧ Kept [] w w' := by
  have hdc : L.length = dcount acc := len_dcount acc L (asc_nodup hL) hm
  have hdis : Hid _ := distinct16 c cap3 d cap4 acc w h' hlen
  have hle := dcount_le acc
  have H : Hid (Two w a b L) := h
  have H' : Hid (Two w c d acc) := h'
  have HL : Hid _ := hL
  have HM : Hid _ := hm
  obtain ⟨n, hn⟩ : ∃ n, n = L.length := ⟨_, rfl⟩
  obtain ⟨N, hN⟩ : ∃ N, N = acc.length := ⟨_, rfl⟩
  rw [← hdc, ← hn, ← hN] at hdis
  rw [← hn, ← hN]
  have Hn : Hid (n = L.length) := hn
  have HN : Hid (N = acc.length) := hN
  have hN' : N ≤ 8192 := by omega
  have hnN : n ≤ N := by omega
  clear hn hN h h' hlen hL hm hdc hle
  go_enter Try.func12, Try.ntmps12
  go_wp2_with fail
  refine (show Calls _ _ _ _ _ from hdis.out).mono ?_
  rintro e w1 ⟨rfl, hK1⟩
  clear hdis
  go_wp2
  go_loopw [9] (fun i wr => ∃ (k : Nat), k ≤ n ∧ i = .int .i64 k ∧ Kept [] w wr) (fun i _ => n - (intOf i).toNat)
  case atStart => exact ⟨0, Nat.zero_le _, rfl, hK1⟩
  case round =>
    obtain ⟨k, hk, rfl, hK⟩ := hrel
    by_cases hlt : k < n
    · obtain ⟨b1, o1, b2, o2, ea, eb, c1, c2⟩ := (H.out.kept0 hK).cells (by have := Hn.out; omega)
      obtain ⟨b3, o3, b4, o4, ec, ed, c3, c4⟩ := (H'.out.kept0 hK).cells (by have := HN.out; omega)
      obtain ⟨⟨x1, x2⟩, hx⟩ : ∃ x, L.getD k (0, 0) = x := ⟨_, rfl⟩
      have Hx : Hid ((x1, x2) ∈ acc) := by have := mem_of_at (acc := L) (t := k) (by have := Hn.out; omega); rw [hx] at this; exact (HM.out _).1 this
      have C3 : Hid (∀ i, i < N → wr.cell? ⟨b3, o3 + i, none⟩ = some (.int .i64 (acc.getD i (0, 0)).1)) := by rw [HN.out]; exact c3
      have C4 : Hid (∀ i, i < N → wr.cell? ⟨b4, o4 + i, none⟩ = some (.int .u64 (acc.getD i (0, 0)).2)) := by rw [HN.out]; exact c4
      have ck1 : wr.cell? ⟨b1, o1 + k, none⟩ = some (.int .i64 x1) := by rw [c1 k (by have := Hn.out; omega), hx]
      have ck2 : wr.cell? ⟨b2, o2 + k, none⟩ = some (.int .u64 x2) := by rw [c2 k (by have := Hn.out; omega), hx]
      subst ea eb ec ed
      have Hasc : Hid (∀ j, k = j + 1 → ∃ p1 p2, wr.cell? ⟨b1, o1 + j, none⟩ = some (.int .i64 p1) ∧ wr.cell? ⟨b2, o2 + j, none⟩ = some (.int .u64 p2) ∧ (p2 < x2 ∨ (p2 = x2 ∧ p1 < x1))) := fun j hj => by
        have hh := Hn.out
        have := asc_at HL.out (k := k) (by omega) (by omega)
        rw [hx] at this
        refine ⟨_, _, c1 j (by omega), c2 j (by omega), ?_⟩
        rw [show k - 1 = j by omega] at this
        exact this
      clear c1 c2 c3 c4 hx
      go_upto_if 69 with fail
      go_cut [69] (fun v wq => v = .bool false ∧ ∃ q, wq = wr.drewN q)
      case first => as_aux_lemma =>
        clear C3 C4 H H' HL HM Hx
        rcases Nat.eq_zero_or_pos k with h0 | h0
        · subst h0
          clear Hasc
          go_quiet (fail)
          go_wp2_with fail
          go_meet
          exact ⟨rfl, _, rfl⟩
        · obtain ⟨j, rfl⟩ : ∃ j, k = j + 1 := ⟨k - 1, by omega⟩
          obtain ⟨p1, p2, cj1, cj2, hor⟩ := Hasc.out j rfl
          clear Hasc
          rcases hor with hl | ⟨he, hl⟩
          · have hd : decide (p2 < x2) = true := by simpa using hl
            go_quiet (fail)
            go_wp2_with fail
            go_meet
            exact ⟨rfl, _, rfl⟩
          · subst he
            have hd : decide (p1 < x1) = true := by simpa using hl
            have hd2 : decide (p2 < p2) = false := by simp
            go_quiet (fail)
            go_wp2_with fail
            go_meet
            exact ⟨rfl, _, rfl⟩
      case rest =>
      obtain ⟨rfl, q0, rfl⟩ := hcut
      clear Hasc
      have ck1' : (wr.drewN q0).cell? ⟨b1, o1 + k, none⟩ = some (.int .i64 x1) := ck1
      have ck2' : (wr.drewN q0).cell? ⟨b2, o2 + k, none⟩ = some (.int .u64 x2) := ck2
      have D3 : Hid (∀ i, i < N → (wr.drewN q0).cell? ⟨b3, o3 + i, none⟩ = some (.int .i64 (acc.getD i (0, 0)).1)) := C3
      have D4 : Hid (∀ i, i < N → (wr.drewN q0).cell? ⟨b4, o4 + i, none⟩ = some (.int .u64 (acc.getD i (0, 0)).2)) := C4
      have hK0 : Kept [] w (wr.drewN q0) := hK.drewN q0
      clear C3 C4 ck1 ck2 hK
      generalize wr.drewN q0 = wz at *
      go_wp2
      go_loopw [10, 11] (fun s j wq => ∃ (m : Nat) (sb : Bool), m ≤ N ∧ j = .int .i64 m ∧ s = .bool sb ∧ Hid (sb = false → ∀ t, t < m → acc.getD t (0, 0) ≠ (x1, x2)) ∧ ∃ q, wq = wz.drewN q) (fun _ j _ => N - (intOf j).toNat)
      case atStart => exact ⟨0, false, Nat.zero_le _, rfl, rfl, fun _ t h => by omega, 0, rfl⟩
      case round =>
        obtain ⟨m, sb, hm2, rfl, rfl, hI, q, rfl⟩ := hrel
        cases sb
        · by_cases hm : m < N
          · obtain ⟨⟨y1, y2⟩, hy⟩ : ∃ y, acc.getD m (0, 0) = y := ⟨_, rfl⟩
            have Hy : Hid (acc.getD m (0, 0) = (y1, y2)) := hy
            have cm1 : wz.cell? ⟨b3, o3 + m, none⟩ = some (.int .i64 y1) := by rw [D3.out m hm, hy]
            have cm2 : wz.cell? ⟨b4, o4 + m, none⟩ = some (.int .u64 y2) := by rw [D4.out m hm, hy]
            clear hy
            by_cases e1 : y1 = x1
            · subst e1
              by_cases e2 : y2 = x2
              · subst e2
                go_wp2
                go_quiet (fail)
                go_wp2
                go_roundw
                case rel => exact ⟨m + 1, true, by omega, by go_num, rfl, by simp [Hid], _, rfl⟩
                case measure => simp [intOf]; omega
              · have hd1 : (y2 == x2) = false := by simpa using e2
                have hd2 : decide (y2 = x2) = false := by simpa using e2
                go_wp2
                go_quiet (fail)
                go_wp2
                go_roundw
                case rel => exact ⟨m + 1, false, by omega, by go_num, rfl, fun _ t h2 => by
                  rcases Nat.lt_or_ge t m with h | h
                  · exact hI.out (by first | trivial | rfl) t h
                  · obtain rfl : t = m := by omega
                    rw [Hy.out]; intro e; exact e2 (congrArg Prod.snd e), _, rfl⟩
                case measure => simp [intOf]; omega
            · have hd1 : (y1 == x1) = false := by simpa using e1
              have hd2 : decide (y1 = x1) = false := by simpa using e1
              go_wp2
              go_quiet (fail)
              go_wp2
              go_roundw
              case rel => exact ⟨m + 1, false, by omega, by go_num, rfl, fun _ t h2 => by
                rcases Nat.lt_or_ge t m with h | h
                · exact hI.out (by first | trivial | rfl) t h
                · obtain rfl : t = m := by omega
                  rw [Hy.out]; intro e; exact e1 (congrArg Prod.fst e), _, rfl⟩
              case measure => simp [intOf]; omega
          · exact absurd Hx.out (not_mem_of fun t ht => hI.out (by first | trivial | rfl) t (by have := HN.out; omega))
        · by_cases hm : m < N
          · go_wp2
            go_roundw
            case rel => exact ⟨k + 1, by omega, by go_num, hK0.drewN q⟩
            case measure => simp [intOf]; omega
          · go_wp2
            go_roundw
            case rel => exact ⟨k + 1, by omega, by go_num, hK0.drewN q⟩
            case measure => simp [intOf]; omega
    · go_wp2
      go_ret
      exact ⟨rfl, hK⟩
end Go.Proofs.Qxb6614904a
