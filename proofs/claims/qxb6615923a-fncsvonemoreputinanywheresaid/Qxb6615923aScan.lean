/-
  zzStringsOver AND THE TWO zzBytes: they read, and hand back some number or bool.
-/
import Derived.Test.Qxb6615923aLeaves
namespace Go.Proofs.Qxb6615923a
open Go.RowKit

/-- A slice of strings as a walk reads it: 'len' strings; where there is one, the address is known. -/
structure Row (w : World) (a : Option Addr) (len : Nat) (ss : List ByteArray) : Prop where
  count : ss.length = len
  small : len ≤ 9223372036854775807
  size : ∀ s ∈ ss, s.size ≤ 9223372036854775807
  cells : 0 < len → ∃ b off, a = some ⟨b, off, none⟩ ∧ b < w.heap.size ∧ ∀ i, i < len → w.cell? ⟨b, off + i, none⟩ = some (.string (ss.getD i ByteArray.empty))

theorem Row.at {w : World} {a : Option Addr} {len : Nat} {ss : List ByteArray} (h : Row w a len ss) {b off : Nat} (ha : a = some ⟨b, off, none⟩) (k : Nat) (hk : k < len) :
    ∃ s, w.cell? ⟨b, off + k, none⟩ = some (.string s) ∧ s.size ≤ 9223372036854775807 := by
  obtain ⟨b', off', ha', _, hc⟩ := h.cells (by omega)
  rw [ha] at ha'
  cases ha'
  refine ⟨_, hc k hk, h.size _ ?_⟩
  rw [List.getD_eq_getElem?_getD, List.getElem?_eq_getElem (by rw [h.count]; exact hk)]
  exact List.getElem_mem ..

set_option maxHeartbeats 1000000 in
theorem over6 (a : Option Addr) (len cap : Nat) (ss : List ByteArray) (s : Int) (w : World) (hr : Row w a len ss) (s0 : 0 ≤ s) (s1 : s ≤ 2097152) :
    Calls Try.prog 6 #[.slice a len cap, .int .i64 s] w fun e w' => Sized e ∧ w' = w := by
  have hm := hr.small
  rcases Nat.eq_zero_or_pos len with h0 | hpos
  · subst h0
    go_enter Try.func6, Try.ntmps6
    go_wp2
    refine wp_loop_rounds 1 ?_
    rw [rounds_succ]
    go_wp2
    go_ret2
    exact ⟨⟨s, _, rfl, s0, s1⟩, rfl⟩
  · obtain ⟨b, off, rfl, hb, hcc⟩ := hr.cells hpos
    clear hcc
    have hat : ∀ k, k < len → ∃ s, w.cell? ⟨b, off + k, none⟩ = some (.string s) ∧ s.size ≤ 9223372036854775807 := fun k hk => hr.at rfl k hk
    clear hr
    have Hat : Hid _ := hat
    clear hat
    go_enter Try.func6, Try.ntmps6
    go_wp2
    go_loop [1, 6, 7] (fun sz ov i => ∃ (k : Nat) (t : Int) (o : Bool), k ≤ len ∧ i = .int .i64 k ∧ sz = .int .i64 t ∧ ov = .bool o ∧ 0 ≤ t ∧ t ≤ 2097152) (fun _ _ i => len - (intOf i).toNat)
    case atStart => exact ⟨0, s, _, Nat.zero_le _, rfl, rfl, rfl, s0, s1⟩
    case round =>
      obtain ⟨k, t, o, hk, rfl, rfl, rfl, t0, t1⟩ := hrel
      by_cases hlt : k < len
      · obtain ⟨x, hx, hxs⟩ := Hat.out k hlt
        clear Hat
        go_wp2_with fail
        refine (add7 _ _ _ (by omega) (by omega) (by omega) (by omega)).mono ?_
        rintro e w' ⟨⟨t', o', rfl, g0, g1⟩, rfl⟩
        cases o'
        · go_wp2_with fail
          refine (add7 _ _ _ (by omega) (by omega) (by omega) (by omega)).mono ?_
          rintro e w' ⟨⟨t2, o2, rfl, g2, g3⟩, rfl⟩
          cases o2
          · go_wp2_with fail
            go_round
            case rel => exact ⟨k + 1, t2, _, by omega, by go_num, rfl, rfl, g2, g3⟩
            case measure => simp [intOf]; omega
          · go_wp2_with fail
            go_ret2
            exact ⟨⟨t2, _, rfl, g2, g3⟩, rfl⟩
        · go_wp2_with fail
          go_ret2
          exact ⟨⟨t', _, rfl, g0, g1⟩, rfl⟩
      · go_wp2_with fail
        go_ret2
        exact ⟨⟨t, _, rfl, t0, t1⟩, rfl⟩
theorem Row.shape {w : World} {a : Option Addr} {len : Nat} {ss : List ByteArray} (h : Row w a len ss) :
    len ≤ 0 ∨ ∃ b off, a = some ⟨b, off, none⟩ ∧ Hid (∀ k, k < len → ∃ s, w.cell? ⟨b, off + k, none⟩ = some (.string s) ∧ s.size ≤ 9223372036854775807) := by
  rcases Nat.eq_zero_or_pos len with h0 | hpos
  · exact Or.inl (Nat.le_of_eq h0)
  · obtain ⟨b, off, rfl, hb, hcc⟩ := h.cells hpos
    exact Or.inr ⟨b, off, rfl, fun k hk => h.at rfl k hk⟩

/-- Some bool. -/
def SomeBool (e : Ending) : Prop := ∃ b : Bool, e = .returned (.bool b)

set_option maxHeartbeats 2000000 in
theorem bytes12 (a1 : Option Addr) (len1 cap1 : Nat) (ss1 : List ByteArray) (a2 : Option Addr) (len2 cap2 : Nat) (ss2 : List ByteArray) (cut : Int) (w : World) (hr1 : Row w a1 len1 ss1) (hr2 : Row w a2 len2 ss2) :
    Calls Try.prog 12 #[.slice a1 len1 cap1, .slice a2 len2 cap2, .int .i64 cut] w fun e w' => SomeBool e ∧ w' = w := by
  have hm1 := hr1.small
  have hm2 := hr2.small
  by_cases c1 : len1 ≤ 1048576
  · rcases hr1.shape with h1 | ⟨b1, off1, rfl, H1⟩
    all_goals rcases hr2.shape with h2 | ⟨b2, off2, rfl, H2⟩
    all_goals
      clear hr1 hr2
      go_enter Try.func12, Try.ntmps12
      go_wp2_with fail
      go_loop [7, 8] (fun zv i => ∃ (k : Nat) (z : Int), k ≤ len1 ∧ i = .int .i64 k ∧ zv = .int .i64 z ∧ 0 ≤ z ∧ z ≤ 1048576) (fun _ i => len1 - (intOf i).toNat)
      case atStart => exact ⟨0, len1, Nat.zero_le _, rfl, by first | rfl | simp, by omega, by omega⟩
      case round =>
        obtain ⟨k, z, hk, rfl, rfl, z0, z1⟩ := hrel
        by_cases hlt : k < len1
        · first
          | (exfalso; omega)
          | (obtain ⟨x, hx, hxs⟩ := H1.out k hlt
             by_cases d1 : x.size ≤ 1048576
             · by_cases d2 : z + x.size ≤ 1048576
               · go_wp2_with fail
                 go_round
                 case rel => exact ⟨k + 1, z + x.size, by omega, by go_num, rfl, by omega, by omega⟩
                 case measure => simp [intOf]; omega
               · go_wp2_with fail
                 go_ret
                 exact ⟨⟨_, rfl⟩, rfl⟩
             · go_wp2_with fail
               go_ret
               exact ⟨⟨_, rfl⟩, rfl⟩)
        · by_cases c2 : len2 ≤ 1048576
          · by_cases c3 : z + len2 ≤ 1048576
            · go_wp2_with fail
              go_loop [7, 9] (fun zv i => ∃ (k : Nat) (z : Int), k ≤ len2 ∧ i = .int .i64 k ∧ zv = .int .i64 z ∧ 0 ≤ z ∧ z ≤ 1048576) (fun _ i => len2 - (intOf i).toNat)
              case atStart => exact ⟨0, z + len2, Nat.zero_le _, rfl, rfl, by omega, by omega⟩
              case round =>
                obtain ⟨k2, z2, hk2, rfl, rfl, z20, z21⟩ := hrel
                by_cases hlt2 : k2 < len2
                · first
                  | (exfalso; omega)
                  | (obtain ⟨x, hx, hxs⟩ := H2.out k2 hlt2
                     by_cases d1 : x.size ≤ 1048576
                     · by_cases d2 : z2 + x.size ≤ 1048576
                       · go_wp2_with fail
                         go_round
                         case rel => exact ⟨k2 + 1, z2 + x.size, by omega, by go_num, rfl, by omega, by omega⟩
                         case measure => simp [intOf]; omega
                       · go_wp2_with fail
                         go_ret
                         exact ⟨⟨_, rfl⟩, rfl⟩
                     · go_wp2_with fail
                       go_ret
                       exact ⟨⟨_, rfl⟩, rfl⟩)
                · go_wp2_with fail
                  go_ret
                  exact ⟨⟨_, rfl⟩, rfl⟩
            · first | (exfalso; omega) | (go_wp2_with fail; go_ret; exact ⟨⟨_, rfl⟩, rfl⟩)
          · first | (exfalso; omega) | (go_wp2_with fail; go_ret; exact ⟨⟨_, rfl⟩, rfl⟩)
  · clear hr1 hr2
    go_enter Try.func12, Try.ntmps12
    go_wp2_with fail
    go_ret
    exact ⟨⟨_, rfl⟩, rfl⟩

set_option maxHeartbeats 2000000 in
theorem bytes5 (a1 : Option Addr) (len1 cap1 : Nat) (ss1 : List ByteArray) (a2 : Option Addr) (len2 cap2 : Nat) (ss2 : List ByteArray) (x2 : ByteArray) (p : Int) (w : World) (hr1 : Row w a1 len1 ss1) (hr2 : Row w a2 len2 ss2) (hx2 : x2.size ≤ 9223372036854775807) :
    Calls Try.prog 5 #[.slice a1 len1 cap1, .slice a2 len2 cap2, .string x2, .int .i64 p] w fun e w' => SomeBool e ∧ w' = w := by
  have hm1 := hr1.small
  have hm2 := hr2.small
  by_cases c1 : len1 ≤ 1048576
  · rcases hr1.shape with h1 | ⟨b1, off1, rfl, H1⟩
    all_goals rcases hr2.shape with h2 | ⟨b2, off2, rfl, H2⟩
    all_goals
      clear hr1 hr2
      go_enter Try.func5, Try.ntmps5
      go_wp2_with fail
      go_loop [9, 10] (fun zv i => ∃ (k : Nat) (z : Int), k ≤ len1 ∧ i = .int .i64 k ∧ zv = .int .i64 z ∧ 0 ≤ z ∧ z ≤ 1048576) (fun _ i => len1 - (intOf i).toNat)
      case atStart => exact ⟨0, len1, Nat.zero_le _, rfl, by first | rfl | simp, by omega, by omega⟩
      case round =>
        obtain ⟨k, z, hk, rfl, rfl, z0, z1⟩ := hrel
        by_cases hlt : k < len1
        · first
          | (exfalso; omega)
          | (obtain ⟨x, hx, hxs⟩ := H1.out k hlt
             by_cases d1 : x.size ≤ 1048576
             · by_cases d2 : z + x.size ≤ 1048576
               · go_wp2_with fail
                 go_round
                 case rel => exact ⟨k + 1, z + x.size, by omega, by go_num, rfl, by omega, by omega⟩
                 case measure => simp [intOf]; omega
               · go_wp2_with fail
                 go_ret
                 exact ⟨⟨_, rfl⟩, rfl⟩
             · go_wp2_with fail
               go_ret
               exact ⟨⟨_, rfl⟩, rfl⟩)
        · by_cases c2 : len2 ≤ 1048576
          · by_cases c3 : z + len2 ≤ 1048576
            · go_wp2_with fail
              go_loop [9, 11] (fun zv i => ∃ (k : Nat) (z : Int), k ≤ len2 ∧ i = .int .i64 k ∧ zv = .int .i64 z ∧ 0 ≤ z ∧ z ≤ 1048576) (fun _ i => len2 - (intOf i).toNat)
              case atStart => exact ⟨0, z + len2, Nat.zero_le _, rfl, rfl, by omega, by omega⟩
              case round =>
                obtain ⟨k2, z2, hk2, rfl, rfl, z20, z21⟩ := hrel
                by_cases hlt2 : k2 < len2
                · first
                  | (exfalso; omega)
                  | (obtain ⟨x, hx, hxs⟩ := H2.out k2 hlt2
                     by_cases d1 : x.size ≤ 1048576
                     · by_cases d2 : z2 + x.size ≤ 1048576
                       · go_wp2_with fail
                         go_round
                         case rel => exact ⟨k2 + 1, z2 + x.size, by omega, by go_num, rfl, by omega, by omega⟩
                         case measure => simp [intOf]; omega
                       · go_wp2_with fail
                         go_ret
                         exact ⟨⟨_, rfl⟩, rfl⟩
                     · go_wp2_with fail
                       go_ret
                       exact ⟨⟨_, rfl⟩, rfl⟩)
                · by_cases d1 : x2.size ≤ 1048576
                  · by_cases d2 : z2 + x2.size ≤ 1048576
                    all_goals
                      go_wp2_with fail
                      go_ret
                      exact ⟨⟨_, rfl⟩, rfl⟩
                  · go_wp2_with fail
                    go_ret
                    exact ⟨⟨_, rfl⟩, rfl⟩
            · first | (exfalso; omega) | (go_wp2_with fail; go_ret; exact ⟨⟨_, rfl⟩, rfl⟩)
          · first | (exfalso; omega) | (go_wp2_with fail; go_ret; exact ⟨⟨_, rfl⟩, rfl⟩)
  · clear hr1 hr2
    go_enter Try.func5, Try.ntmps5
    go_wp2_with fail
    go_ret
    exact ⟨⟨_, rfl⟩, rfl⟩
end Go.Proofs.Qxb6615923a
