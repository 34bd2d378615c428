/-
  THE MODEL's TEXT, DIGIT BY DIGIT, IS THE TEXT: plain mathematics.
-/
import Derived.Test.Qxb6602634aDoorText
namespace Go.Proofs.Qxb6602634aDoor
open Go

def down (M N q : Nat) : List UInt8 := (List.range (N - q)).map fun t => Lib.dg M (N - 1 - t)
def part (M N q : Nat) : List UInt8 := if q ≤ 8 then down M N 9 ++ 46 :: down M 9 q else down M N q

theorem down_step (M N q : Nat) (h : q + 1 ≤ N) : down M N q = down M N (q + 1) ++ [Lib.dg M q] := by
  have e : N - q = (N - (q + 1)) + 1 := by omega
  have e2 : N - 1 - (N - (q + 1)) = q := by omega
  rw [down, e, List.range_succ, List.map_append, down]
  simp only [List.map_cons, List.map_nil, e2]
theorem part_start (M N : Nat) (h : 10 ≤ N) : part M N N = [] := by
  rw [part, if_neg (by omega), down, Nat.sub_self]
  rfl
theorem part_step (M N p : Nat) (h : p + 1 ≤ N) (h8 : p ≠ 8) : part M N p = part M N (p + 1) ++ [Lib.dg M p] := by
  unfold part
  by_cases h1 : p ≤ 8
  · rw [if_pos h1, if_pos (by omega), down_step M 9 p (by omega)]
    simp
  · rw [if_neg h1, if_neg (by omega), down_step M N p h]
theorem part_point (M N : Nat) : part M N 8 = part M N 9 ++ [46] ++ [Lib.dg M 8] := by
  rw [part, if_pos (by omega), part, if_neg (by omega), down_step M 9 8 (by omega)]
  have e : down M 9 9 = [] := rfl
  simp [e]

theorem dg_shift (M j : Nat) : Lib.dg (M / 1000000000) j = Lib.dg M (j + 9) := by
  have e : (1000000000 : Nat) = 10 ^ 9 := rfl
  have e2 : M / 10 ^ 9 / 10 ^ j = M / 10 ^ (j + 9) := by rw [Nat.div_div_eq_div_mul, ← Nat.pow_add, Nat.add_comm]
  rw [Lib.dg, Lib.dg, e, e2]
theorem mod_digit (M j : Nat) (h : j < 9) : M % 10 ^ 9 / 10 ^ j % 10 = M / 10 ^ j % 10 := by
  have e : 10 ^ 9 = 10 ^ j * 10 ^ (9 - j) := by rw [← Nat.pow_add]; congr 1; omega
  have e2 : 10 ^ (9 - j) = 10 * 10 ^ (8 - j) := by rw [← Nat.pow_succ']; congr 1; omega
  rw [e, Nat.mod_mul_right_div_self, e2, Nat.mod_mul_right_mod]
theorem frac_down (M : Nat) : frac9 (M % 1000000000) = down M 9 0 := by
  rw [frac9, down]
  refine List.map_congr_left fun t ht => ?_
  have ht' : t < 9 := by simpa using ht
  have e := mod_digit M (8 - t) (by omega)
  rw [Lib.dg, Lib.dg, show (1000000000 : Nat) = 10 ^ 9 from rfl, e]

theorem nd_shift (M N : Nat) (h10 : 10 ≤ N) (hlt : M < 10 ^ N) (hge : N ≤ 10 ∨ 10 ^ (N - 1) ≤ M) : Lib.nDigits (M / 1000000000) = N - 9 := by
  have e : (1000000000 : Nat) = 10 ^ 9 := rfl
  have hup : M / 10 ^ 9 < 10 ^ (N - 9) := by
    rw [Nat.div_lt_iff_lt_mul (by omega), ← Nat.pow_add]
    have : N - 9 + 9 = N := by omega
    rw [this]; exact hlt
  by_cases hN : N ≤ 10
  · have hN' : N = 10 := by omega
    subst hN'
    rw [e]
    exact Lib.nDigits_small (by simpa using hup)
  · have hlo : 10 ^ (N - 10) ≤ M / 10 ^ 9 := by
      rw [Nat.le_div_iff_mul_le (by omega), ← Nat.pow_add]
      have : N - 10 + 9 = N - 1 := by omega
      rw [this]
      rcases hge with h | h
      · omega
      · exact h
    have e2 : N - 9 = N - 10 + 1 := by omega
    rw [e2] at hup ⊢
    rw [e]
    exact Lib.nDigits_unique (N - 10) _ hlo hup

theorem part_end (M N : Nat) (h10 : 10 ≤ N) (hlt : M < 10 ^ N) (hge : N ≤ 10 ∨ 10 ^ (N - 1) ≤ M) : part M N 0 = usd M := by
  rw [part, if_pos (by omega), usd, frac_down, Lib.decDigits_eq, nd_shift M N h10 hlt hge, down]
  congr 1
  refine List.map_congr_left fun t ht => ?_
  have ht' : t < N - 9 := by simpa using ht
  rw [dg_shift]
  congr 1
  omega

theorem part_length (M N q : Nat) (hN : N ≤ 20) : (part M N q).length ≤ 21 := by
  unfold part
  split
  · simp [down]; omega
  · simp [down]; omega

theorem dg_zero (M q : Nat) (h : M < 10 ^ q) : ((Lib.dg M q).toNat : Int) = 48 := by
  rw [dg_int, Nat.div_eq_of_lt h]
  rfl
end Go.Proofs.Qxb6602634aDoor
