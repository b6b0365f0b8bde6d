/-
  THE WALK OF inName, ZZinName AND THE LAW FnInNameCasePartner.
-/
import Derived.Test.Qxb6616023aRows
import Derived.Test.Qxb6616023aPlain
import Derived.WalkKit
import Derived.ProofKit
namespace Go.Proofs.Qxb6616023a
open Go.RowKit

/-- a rune that may stand in a syscall's name -/
def isIn (r : Int) : Prop := (97 ≤ r ∧ r ≤ 122) ∨ (48 ≤ r ∧ r ≤ 57) ∨ (95 ≤ r ∧ r ≤ 95)
def isOut (r : Int) : Prop := r ≤ 47 ∨ (58 ≤ r ∧ r ≤ 94) ∨ (96 ≤ r ∧ r ≤ 96) ∨ 123 ≤ r
theorem in_or_out (r : Int) : isIn r ∨ isOut r := by unfold isIn isOut; omega

theorem in_yes (r : Int) (w : World) (h : isIn r) :
    Calls Try.prog 4 #[.int .i32 r] w fun e w' => e = .returned (.bool true) ∧ w' = w := by
  rcases h with ⟨h1, h2⟩ | ⟨h1, h2⟩ | ⟨h1, h2⟩
  all_goals
    go_enter Try.func4, Try.ntmps4
    go_wp2
    go_ret
    exact ⟨by first | rfl | (simp; done) | (simp; omega), rfl⟩

theorem in_no (r : Int) (w : World) (h : isOut r) :
    Calls Try.prog 4 #[.int .i32 r] w fun e w' => e = .returned (.bool false) ∧ w' = w := by
  rcases h with h1 | ⟨h1, h2⟩ | ⟨h1, h2⟩ | h1
  all_goals
    go_enter Try.func4, Try.ntmps4
    go_wp2
    go_ret
    exact ⟨by first | rfl | (simp; done) | (simp; omega), rfl⟩

/-- the six kinds of rune that the law parts by, and what its partner is -/
theorem parts (r : Int) (h1 : -2147483648 ≤ r) (h2 : r ≤ 2147483647) :
    ((97 ≤ r ∧ r ≤ 122) ∧ isIn r ∧ isOut (bits .xor .i32 r 32)) ∨
    ((65 ≤ r ∧ r ≤ 90) ∧ isOut r ∧ isIn (bits .xor .i32 r 32)) ∨
    (((48 ≤ r ∧ r ≤ 57) ∨ (95 ≤ r ∧ r ≤ 95)) ∧ isIn r ∧ isOut (bits .xor .i32 r 32)) ∨
    ((r ≤ 47 ∨ (58 ≤ r ∧ r ≤ 64) ∨ (91 ≤ r ∧ r ≤ 94) ∨ (96 ≤ r ∧ r ≤ 96) ∨ 123 ≤ r) ∧ isOut r) := by
  rw [partner r h1 h2]
  unfold isIn isOut
  split <;> omega

set_option maxHeartbeats 1000000 in
theorem law (r : Int) (h1 : -2147483648 ≤ r) (h2 : r ≤ 2147483647) (w : World) :
    Calls Try.prog 3 #[.int .i32 r] w fun e w' => e = .returned (.bool true) ∧ w' = w := by
  rcases parts r h1 h2 with ⟨⟨a1, a2⟩, hi, ho⟩ | ⟨⟨a1, a2⟩, hi, ho⟩ | ⟨ha, hi, ho⟩ | ⟨ha, hi⟩
  · go_enter Try.func3, Try.ntmps3
    go_wp2_with fail
    refine (in_yes _ _ hi).mono ?_
    rintro e w' ⟨rfl, rfl⟩
    go_wp2_with fail
    refine (in_no _ _ ho).mono ?_
    rintro e w' ⟨rfl, rfl⟩
    go_wp2
    all_goals first | (exfalso; clear hi ho; simp only [beq_iff_eq, beq_eq_false_iff_ne] at *; omega) | (go_ret; exact ⟨rfl, rfl⟩)
  · go_enter Try.func3, Try.ntmps3
    go_wp2_with fail
    refine (in_no _ _ hi).mono ?_
    rintro e w' ⟨rfl, rfl⟩
    go_wp2_with fail
    refine (in_yes _ _ ho).mono ?_
    rintro e w' ⟨rfl, rfl⟩
    go_wp2
    all_goals first | (exfalso; clear hi ho; simp only [beq_iff_eq, beq_eq_false_iff_ne] at *; omega) | (go_ret; exact ⟨rfl, rfl⟩)
  · rcases ha with ⟨a1, a2⟩ | ⟨a1, a2⟩
    all_goals
      go_enter Try.func3, Try.ntmps3
      go_wp2_with fail
      refine (in_yes _ _ hi).mono ?_
      rintro e w' ⟨rfl, rfl⟩
      go_wp2_with fail
      refine (in_no _ _ ho).mono ?_
      rintro e w' ⟨rfl, rfl⟩
      go_wp2
      all_goals first | (exfalso; clear hi ho; simp only [beq_iff_eq, beq_eq_false_iff_ne] at *; omega) | (go_ret; exact ⟨rfl, rfl⟩)
  · rcases in_or_out (bits .xor .i32 r 32) with ho | ho
    · rcases ha with a1 | ⟨a1, a2⟩ | ⟨a1, a2⟩ | ⟨a1, a2⟩ | a1
      all_goals
        go_enter Try.func3, Try.ntmps3
        go_wp2_with fail
        refine (in_no _ _ hi).mono ?_
        rintro e w' ⟨rfl, rfl⟩
        go_wp2_with fail
        refine (in_yes _ _ ho).mono ?_
        rintro e w' ⟨rfl, rfl⟩
        go_wp2
        all_goals first | (exfalso; clear hi ho; simp only [beq_iff_eq, beq_eq_false_iff_ne] at *; omega) | (go_ret; exact ⟨rfl, rfl⟩)
    · rcases ha with a1 | ⟨a1, a2⟩ | ⟨a1, a2⟩ | ⟨a1, a2⟩ | a1
      all_goals
        go_enter Try.func3, Try.ntmps3
        go_wp2_with fail
        refine (in_no _ _ hi).mono ?_
        rintro e w' ⟨rfl, rfl⟩
        go_wp2_with fail
        refine (in_no _ _ ho).mono ?_
        rintro e w' ⟨rfl, rfl⟩
        go_wp2
        all_goals first | (exfalso; clear hi ho; simp only [beq_iff_eq, beq_eq_false_iff_ne] at *; omega) | (go_ret; exact ⟨rfl, rfl⟩)
end Go.Proofs.Qxb6616023a
