/-
  THE MAIN WALK.
-/
import Derived.Test.Qxb6614904aEndF
namespace Go.Proofs.Qxb6614904a
open Go.RowKit Go.Maps

set_option maxRecDepth 100000 in
set_option maxHeartbeats 8000000 in
theorem walk3 (a0 : Int) (a1 : Option Addr) (len1 cap1 : Nat) (z1 : List Int) (a2 : Option Addr) (cap2 : Nat) (a3 : Option Addr) (len3 cap3 : Nat) (a4 a5 : Int) (acc : List (Int × Int)) (w : World)
    (h1 : Src .u64 w a1 len1 z1) (h2 : len3 = acc.length → Two w a2 a3 acc) (m1 : len1 ≤ maxLen) (m2 : acc.length ≤ maxLen) (m3 : len3 ≤ maxLen) (hok : ∀ x ∈ acc, okP x) (hx : okP (a4, a5)) :
    Calls Try.prog 3 #[.int .u64 a0, .slice a1 len1 cap1, .slice a2 acc.length cap2, .slice a3 len3 cap3, .int .i64 a4, .int .u64 a5] w fun e w' => e = .returned (.bool true) ∧ Below w.heap.size w w' := by
  obtain ⟨n, hn⟩ : ∃ n, n = acc.length := ⟨_, rfl⟩
  have Hn : Hid (n = acc.length) := hn
  rw [← hn] at m2 h2 ⊢
  have H1 : Hid _ := h1
  have H2 : Hid _ := h2
  have Hok : Hid _ := hok
  have Hb : Hid _ := bytes4 a0 a1 len1 cap1 a2 n cap2 a3 len3 cap3 a4 a5 w m1 m2 m3
  clear h1 h2 hok hn
  go_enter Try.func3, Try.ntmps3
  go_wp2_with fail
  refine (show Calls _ _ _ _ _ from Hb.out).mono ?_
  rintro e w' ⟨⟨t, rfl⟩, rfl⟩
  clear Hb
  cases t
  · go_wp2
    go_ret
    exact ⟨rfl, Below.refl _ _⟩
  unfold maxLen at m1 m2 m3
  by_cases l1 : len1 ≤ 131072
  case neg => as_aux_lemma =>
    go_wp2
    go_ret
    exact ⟨rfl, Below.refl _ _⟩
  by_cases l2 : n ≤ 4096
  case neg => as_aux_lemma =>
    go_wp2
    go_ret
    exact ⟨rfl, Below.refl _ _⟩
  by_cases l3 : len3 ≤ 4096
  case neg => as_aux_lemma =>
    go_wp2
    go_ret
    exact ⟨rfl, Below.refl _ _⟩
  by_cases l4 : 8 * len1 + 8 * n + 8 * len3 ≤ 1048576
  case neg => as_aux_lemma =>
    go_wp2
    go_ret
    exact ⟨rfl, Below.refl _ _⟩
  by_cases l5 : len3 = n
  case neg =>
    have hd : ((len3 : Int) != n) = true := by simp; omega
    go_wp2
    go_ret
    exact ⟨rfl, Below.refl _ _⟩
  subst l5
  have T2 : Hid (Two w' a2 a3 acc) := H2.out rfl
  clear H2 m3 l3
  go_upto_region 10 with fail
  go_loop [13] (fun i => ∃ k : Nat, k ≤ len3 ∧ i = .int .i64 k) (fun i => len3 - (intOf i).toNat)
  case atStart => exact ⟨0, Nat.zero_le _, rfl⟩
  case round =>
  obtain ⟨k, hk, rfl⟩ := hrel
  by_cases hlt : k < len3
  case pos =>
    obtain ⟨b1, o1, b2, o2, ea, eb, c1, c2⟩ := T2.out.cells (by have := Hn.out; omega)
    obtain ⟨x1, d1⟩ : ∃ x1, w'.cell? ⟨b1, o1 + k, none⟩ = some (.int .i64 x1) := ⟨_, c1 k (by have := Hn.out; omega)⟩
    obtain ⟨x2, d2⟩ : ∃ x2, w'.cell? ⟨b2, o2 + k, none⟩ = some (.int .u64 x2) := ⟨_, c2 k (by have := Hn.out; omega)⟩
    clear c1 c2
    subst ea eb
    by_cases e1 : x1 < 0
    · go_wp2
      go_ret
      exact ⟨rfl, Below.refl _ _⟩
    · by_cases e2 : (len1 : Int) ≤ x1
      · go_wp2
        go_ret
        exact ⟨rfl, Below.refl _ _⟩
      · by_cases e3 : a0 < x2
        · go_wp2
          go_ret
          exact ⟨rfl, Below.refl _ _⟩
        · go_wp2
          go_round
          case rel => exact ⟨k + 1, by omega, by go_num⟩
          case measure => simp [intOf]; omega
  go_upto_region 14 with fail
  clear hk hlt
  by_cases e4 : a4 < 0
  case pos => as_aux_lemma =>
    go_wp2
    go_ret
    exact ⟨rfl, Below.refl _ _⟩
  by_cases e5 : (len1 : Int) ≤ a4
  case pos => as_aux_lemma =>
    go_wp2
    go_ret
    exact ⟨rfl, Below.refl _ _⟩
  by_cases e6 : a0 < a5
  case pos => as_aux_lemma =>
    go_wp2
    go_ret
    exact ⟨rfl, Below.refl _ _⟩
  go_cut [120] (fun s wx => s = .bool false ∧ wx = w')
  case first => as_aux_lemma =>
    go_wp2
    go_meet
    exact ⟨rfl, rfl⟩
  case rest => as_aux_lemma =>
  obtain ⟨rfl, hw⟩ := hcut
  refine (show ∀ a w, Code.wp Try.prog _ _ a w → _ from by assumption) _ _ ?_
  go_cut [] (fun wx => wx = w')
  case first => as_aux_lemma =>
    go_wp2
    go_meet
    exact rfl
  case rest => as_aux_lemma =>
  refine (show ∀ a w, Code.wp Try.prog _ _ a w → _ from by assumption) _ _ ?_
  subst hcut
  exact t16 _ (by rfl) _ _ a0 a2 cap2 a3 len3 cap3 a4 a5 acc a1 len1 cap1 z1 rfl H1 l1 T2 Hn l2 Hok hx
end Go.Proofs.Qxb6614904a
