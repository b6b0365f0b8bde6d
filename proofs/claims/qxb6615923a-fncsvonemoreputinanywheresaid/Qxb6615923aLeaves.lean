/-
  THE LEAVES: zzAdd, ZZobjectPath, ZZobjectHasDoc, ZZcsvObject, ZZdeployment.
-/
import Derived.Test.Qxb6615923aRows
import Derived.WalkKit
import Derived.ProofKit
namespace Go.Proofs.Qxb6615923a
open Go.RowKit

theorem below_more {a w : World} (h : Below a.heap.size a w) (o : Obj) : Below a.heap.size a (w.alloc o) := h.alloc h.size o

/-- A size within bounds, and a bool. -/
def Sized (e : Ending) : Prop := ∃ (t : Int) (b : Bool), e = .returned (.tuple #[.int .i64 t, .bool b]) ∧ 0 ≤ t ∧ t ≤ 2097152

/-- zzAdd: some size that is within bounds, and a bool. -/
theorem add7 (s n : Int) (w : World) (s0 : 0 ≤ s) (s1 : s ≤ 2097152) (n0 : 0 ≤ n) (n1 : n ≤ 9223372036854775807) :
    Calls Try.prog 7 #[.int .i64 s, .int .i64 n] w fun e w' => Sized e ∧ w' = w := by
  by_cases c1 : s ≤ 1048576
  · by_cases c2 : n ≤ 1048576
    · go_enter Try.func7, Try.ntmps7
      go_wp2
      go_ret2
      exact ⟨⟨s + n, _, rfl, by omega, by omega⟩, rfl⟩
    · go_enter Try.func7, Try.ntmps7
      go_wp2
      go_ret2
      exact ⟨⟨s, _, rfl, by omega, by omega⟩, rfl⟩
  · go_enter Try.func7, Try.ntmps7
    go_wp2
    go_ret2
    exact ⟨⟨s, _, rfl, by omega, by omega⟩, rfl⟩

theorem path10 (s : ByteArray) (p : Option Addr) (w : World) :
    Calls Try.prog 10 #[.agg #[.string s, .pointer p]] w fun e w' => e = .returned (.string s) ∧ w' = w.alloc (.cells #[.string s, .pointer p] 29) := by
  go_enter Try.func10, Try.ntmps10
  go_wp2
  go_ret
  exact ⟨rfl, rfl⟩

theorem doc11_some (s : ByteArray) (a : Addr) (w : World) :
    Calls Try.prog 11 #[.agg #[.string s, .pointer (some a)]] w fun e w' => e = .returned (.bool true) ∧ w' = w.alloc (.cells #[.string s, .pointer (some a)] 29) := by
  go_enter Try.func11, Try.ntmps11
  go_wp2
  go_ret
  exact ⟨rfl, rfl⟩

theorem doc11_none (s : ByteArray) (w : World) :
    Calls Try.prog 11 #[.agg #[.string s, .pointer none]] w fun e w' => e = .returned (.bool false) ∧ w' = w.alloc (.cells #[.string s, .pointer none] 29) := by
  go_enter Try.func11, Try.ntmps11
  go_wp2
  go_ret
  exact ⟨rfl, rfl⟩

theorem obj14 (s : ByteArray) (w : World) :
    Calls Try.prog 14 #[.string s] w fun e w' => (∃ a, e = .returned (.agg #[.string s, .pointer (some a)])) ∧ Below w.heap.size w w' := by
  go_enter Try.func14, Try.ntmps14
  go_wp2
  exact bodyPost_ret (v := .agg #[.string s, .pointer (some ⟨w.heap.size + 1, 0, none⟩)]) (by simp [results, Try.results14, go_sem]) rfl ⟨⟨_, rfl⟩, ((Below.refl _ _).alloc (Nat.le_refl _) _).alloc (by simp) _⟩

set_option maxHeartbeats 1000000 in
theorem dep15 (s t : ByteArray) (w : World) :
    Calls Try.prog 15 #[.string s, .string t] w fun e w' => (∃ a, e = .returned (.agg #[.string s, .pointer (some a)])) ∧ Below w.heap.size w w' := by
  go_enter Try.func15, Try.ntmps15
  go_wp2
  refine bodyPost_ret (v := .agg #[.string s, .pointer (some ⟨w.heap.size + 1 + 1 + 1 + 1 + 1 + 1 + 1 + 1 + 1 + 1 + 1 + 1 + 1, 0, none⟩)]) (by simp [results, Try.results15, go_sem]) rfl ⟨⟨_, rfl⟩, ?_⟩
  repeat (first | exact Below.refl _ _ | refine below_more ?_ _)
end Go.Proofs.Qxb6615923a
