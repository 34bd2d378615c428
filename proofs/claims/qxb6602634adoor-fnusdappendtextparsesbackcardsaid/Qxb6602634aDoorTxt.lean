/-
  THE TEXT AS A READER MEETS IT, byte for byte: plain mathematics.
-/
import Derived.Test.Qxb6602634aDoorPart
import Derived.WalkKit
namespace Go.Proofs.Qxb6602634aDoor
open Go

/-- From place s on: K digits, the point, nine digits: those of M. -/
structure Txt (M K s T : Nat) (t : Nat → Int) : Prop where
  k1 : 1 ≤ K
  k10 : K ≤ 10
  len : T = s + K + 10
  lt : M < 10 ^ (K + 9)
  lead : K = 1 ∨ 10 ^ (K + 8) ≤ M
  ints : ∀ r, r < K → t (s + r) = ((Lib.dg M (K + 8 - r)).toNat : Int)
  point : t (s + K) = 46
  fracs : ∀ f, f < 9 → t (s + K + 1 + f) = ((Lib.dg M (8 - f)).toNat : Int)

theorem nd_ten (q : Nat) (h : q < 10000000000) : Lib.nDigits q ≤ 10 := by
  rcases Nat.lt_or_ge 10 (Lib.nDigits q) with h1 | h1
  · have key : ∀ k q, k + 1 ≤ Lib.nDigits q → k = 0 ∨ 10 ^ k ≤ q := by
      intro k
      induction k with
      | zero => intro q _; exact Or.inl rfl
      | succ k ih =>
        intro q hq
        right
        by_cases h10 : q < 10
        · rw [Lib.nDigits_small h10] at hq; omega
        · rw [Lib.nDigits_big h10] at hq
          rcases ih (q / 10) (by omega) with h0 | h0
          · subst h0; omega
          · rw [Nat.pow_succ]; omega
    rcases key 10 q (by omega) with h0 | h0
    · omega
    · omega
  · exact h1

theorem nd_pow (k : Nat) : ∀ q, k + 1 ≤ Lib.nDigits q → k = 0 ∨ 10 ^ k ≤ q := by
  induction k with
  | zero => intro q _; exact Or.inl rfl
  | succ k ih =>
    intro q hq
    right
    by_cases h10 : q < 10
    · rw [Lib.nDigits_small h10] at hq; omega
    · rw [Lib.nDigits_big h10] at hq
      rcases ih (q / 10) (by omega) with h0 | h0
      · subst h0; omega
      · rw [Nat.pow_succ]; omega

theorem usd_at_int (M r : Nat) (h : r < Lib.nDigits (M / 1000000000)) : (usd M)[r]? = some (Lib.dg M (Lib.nDigits (M / 1000000000) + 8 - r)) := by
  rw [usd, List.getElem?_append_left (by rw [Lib.decDigits_length]; exact h), Lib.decDigits_eq, List.getElem?_map, List.getElem?_range h]
  simp only [Option.map_some, dg_shift]
  congr 2
  omega
theorem usd_at_point (M : Nat) : (usd M)[Lib.nDigits (M / 1000000000)]? = some 46 := by
  rw [usd, List.getElem?_append_right (by rw [Lib.decDigits_length]; exact Nat.le_refl _), Lib.decDigits_length, Nat.sub_self]
  rfl
theorem usd_at_frac (M f : Nat) (h : f < 9) : (usd M)[Lib.nDigits (M / 1000000000) + 1 + f]? = some (Lib.dg M (8 - f)) := by
  rw [usd, List.getElem?_append_right (by rw [Lib.decDigits_length]; omega), Lib.decDigits_length]
  have e : Lib.nDigits (M / 1000000000) + 1 + f - Lib.nDigits (M / 1000000000) = f + 1 := by omega
  rw [e, List.getElem?_cons_succ, frac_down, down, List.getElem?_map, List.getElem?_range (by omega)]
  rfl
theorem usd_length (M : Nat) : (usd M).length = Lib.nDigits (M / 1000000000) + 10 := by
  rw [usd, List.length_append, List.length_cons, frac9_length, Lib.decDigits_length]

theorem txt_at (M : Nat) (hM : M ≤ 9223372036854775808) (pre : List UInt8) :
    Txt M (Lib.nDigits (M / 1000000000)) pre.length (pre ++ usd M).length (fun j => (((pre ++ usd M).getD j 0).toNat : Int)) := by
  have e9 : (1000000000 : Nat) = 10 ^ 9 := rfl
  have get : ∀ j c, (usd M)[j]? = some c → (((pre ++ usd M).getD (pre.length + j) 0).toNat : Int) = (c.toNat : Int) := by
    intro j c hc
    rw [List.getD_eq_getElem?_getD, List.getElem?_append_right (by omega)]
    have e : pre.length + j - pre.length = j := by omega
    rw [e, hc]
    rfl
  refine ⟨Lib.nDigits_pos _, nd_ten _ (by omega), by rw [List.length_append, usd_length]; omega, ?_, ?_, ?_, ?_, ?_⟩
  · have h := Lib.lt_pow_nDigits (M / 1000000000)
    rw [e9, Nat.div_lt_iff_lt_mul (by omega), ← Nat.pow_add] at h
    exact h
  · obtain ⟨k, hk⟩ : ∃ k, Lib.nDigits (M / 1000000000) = k + 1 := ⟨Lib.nDigits (M / 1000000000) - 1, by have := Lib.nDigits_pos (M / 1000000000); omega⟩
    rcases nd_pow k (M / 1000000000) (by omega) with h | h
    · left; omega
    · right
      rw [hk]
      rw [e9, Nat.le_div_iff_mul_le (by omega), ← Nat.pow_add] at h
      exact h
  · intro r hr
    exact get r _ (usd_at_int M r hr)
  · exact get _ _ (usd_at_point M)
  · intro f hf
    have := get _ _ (usd_at_frac M f hf)
    rw [show pre.length + Lib.nDigits (M / 1000000000) + 1 + f = pre.length + (Lib.nDigits (M / 1000000000) + 1 + f) by omega]
    exact this

theorem dg_range (M j : Nat) : 48 ≤ ((Lib.dg M j).toNat : Int) ∧ ((Lib.dg M j).toNat : Int) ≤ 57 := by
  rw [dg_int]
  omega
/-- One digit more is read. -/
theorem read_step (M q V : Nat) (x : Int) (hM : M ≤ 9223372036854775808) (hV : V = M / 10 ^ (q + 1)) (hx : x = ((Lib.dg M q).toNat : Int)) :
    IntKind.u64.wrap (IntKind.u64.wrap ((V : Int) * 10) + (x - 48)) = ((M / 10 ^ q : Nat) : Int) := by
  have h1 := Nat.div_le_self M (10 ^ q)
  rw [hx, dg_int, hV, Nat.pow_succ, ← Nat.div_div_eq_div_mul]
  generalize M / 10 ^ q = a at *
  rw [IntKind.wrap_u64, IntKind.wrap_u64]
  omega
theorem lead_dg (M K : Nat) (hlt : M < 10 ^ (K + 9)) (h : 10 ^ (K + 8) ≤ M) : (((Lib.dg M (K + 8)).toNat : Int) == 48) = false := by
  have hp : 0 < 10 ^ (K + 8) := Nat.pow_pos (by omega)
  have h1 : 1 ≤ M / 10 ^ (K + 8) := (Nat.le_div_iff_mul_le hp).2 (by omega)
  have h2 : M / 10 ^ (K + 8) < 10 := (Nat.div_lt_iff_lt_mul hp).2 (by rw [Nat.mul_comm, ← Nat.pow_succ]; exact hlt)
  rw [dg_int, beq_eq_false_iff_ne]
  omega
end Go.Proofs.Qxb6602634aDoor
