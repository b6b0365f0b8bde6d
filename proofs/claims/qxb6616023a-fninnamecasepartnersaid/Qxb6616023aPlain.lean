/-
  THE PLAIN LAW OF 'r ^ 0x20' ON A rune: bit 5 is turned, the rest stays.
-/
import Derived.Laws.Entries
import Derived.Laws.BitsLemmas
namespace Go.Proofs.Qxb6616023a
theorem xor_one (y : Nat) : y ^^^ 1 = if y % 2 = 0 then y + 1 else y - 1 := by
  have a1 : (y ^^^ 1) % 2 = (y % 2) ^^^ 1 := by
    have := Nat.xor_mod_two_pow (a := y) (b := 1) (n := 1)
    simpa using this
  have a2 : (y ^^^ 1) / 2 = y / 2 := by
    have := Nat.xor_div_two_pow (a := y) (b := 1) (n := 1)
    simpa using this
  rcases Nat.mod_two_eq_zero_or_one y with h | h
  · rw [h] at a1
    have a3 : (y ^^^ 1) % 2 = 1 := a1
    rw [if_pos h]
    omega
  · rw [h] at a1
    have a3 : (y ^^^ 1) % 2 = 0 := a1
    rw [if_neg (by omega)]
    omega
theorem xor_32 (x : Nat) : x ^^^ 32 = if x / 32 % 2 = 0 then x + 32 else x - 32 := by
  have h1 : (x ^^^ 32) % 32 = x % 32 := by
    have := Nat.xor_mod_two_pow (a := x) (b := 32) (n := 5)
    simpa using this
  have h2 : (x ^^^ 32) / 32 = (x / 32) ^^^ 1 := by
    have := Nat.xor_div_two_pow (a := x) (b := 32) (n := 5)
    simpa using this
  rw [xor_one] at h2
  by_cases h : x / 32 % 2 = 0
  · rw [if_pos h] at h2 ⊢
    omega
  · rw [if_neg h] at h2 ⊢
    omega
theorem partner (a : Int) (h1 : -2147483648 ≤ a) (h2 : a ≤ 2147483647) : bits .xor .i32 a 32 = if a / 32 % 2 = 0 then a + 32 else a - 32 := by
  show IntKind.i32.wrap ((BitVec.ofInt 32 a ^^^ BitVec.ofInt 32 32).toNat : Int) = _
  have e : BitVec.ofInt 32 32 = 32#32 := rfl
  have e2 : (32#32).toNat = 32 := rfl
  rw [e, BitVec.toNat_xor, e2, xor_32, BitVec.toNat_ofInt, Go.IntKind.wrap_i32]
  split <;> split <;> omega
end Go.Proofs.Qxb6616023a
