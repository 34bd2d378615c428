/-
  THE PLAIN TEXT OF A DOLLAR AMOUNT: no Go in sight.
-/
import Derived.Lib.ItoaNum
namespace Go.Proofs.Qxb6602634aDoor
open Go

/-- The nine digits of the fraction. -/
def frac9 (r : Nat) : List UInt8 := (List.range 9).map fun t => Lib.dg r (8 - t)
/-- The text of a magnitude in billionths. -/
def usd (m : Nat) : List UInt8 := Lib.decDigits (m / 1000000000) ++ 46 :: frac9 (m % 1000000000)
/-- The text of an amount. -/
def usdText (d : Int) : List UInt8 := if d < 0 then 45 :: usd d.natAbs else usd d.natAbs

theorem frac9_length (r : Nat) : (frac9 r).length = 9 := by simp [frac9]
/-- What lies in cell j of the fraction's array when m rounds are still to come. -/
def fcell (r m j : Nat) : Int := if j = 0 then 46 else if m < j then ((Lib.dg r (9 - j)).toNat : Int) else 0

theorem fcell_keep (r m j : Nat) (h : j ≠ m + 1) : fcell r m j = fcell r (m + 1) j := by
  unfold fcell
  by_cases h0 : j = 0
  · rw [if_pos h0, if_pos h0]
  · rw [if_neg h0, if_neg h0]
    by_cases h1 : m + 1 < j
    · rw [if_pos h1, if_pos (by omega)]
    · rw [if_neg h1, if_neg (by omega)]

theorem dg_int (u j : Nat) : ((Lib.dg u j).toNat : Int) = 48 + ((u / 10 ^ j % 10 : Nat) : Int) := by
  have : u / 10 ^ j % 10 < 10 := Nat.mod_lt _ (by omega)
  rw [Lib.dg, UInt8.toNat_ofNat']
  omega

theorem fcell_new (r m : Nat) (hm : m < 9) : fcell r m (m + 1) = 48 + ((r / 10 ^ (8 - m) % 10 : Nat) : Int) := by
  have e : 9 - (m + 1) = 8 - m := by omega
  rw [fcell, if_neg (by omega), if_pos (by omega), dg_int, e]

theorem fcell_done (r j : Nat) (hj : j < 10) : (46 :: frac9 r)[j]? = some (UInt8.ofNat (fcell r 0 j).toNat) ∧ ∀ b, (46 :: frac9 r)[j]? = some b → fcell r 0 j = (b.toNat : Int) := by
  cases j with
  | zero =>
    refine ⟨rfl, ?_⟩
    intro b hb
    simp at hb
    subst hb
    rfl
  | succ j =>
    have e : (46 :: frac9 r)[j + 1]? = some (Lib.dg r (8 - j)) := by
      rw [List.getElem?_cons_succ, frac9, List.getElem?_map, List.getElem?_range (by omega)]
      rfl
    have e2 : 9 - (j + 1) = 8 - j := by omega
    rw [e, fcell, if_neg (by omega), if_pos (by omega), e2]
    refine ⟨by simp, ?_⟩
    intro b hb
    cases hb
    rfl

theorem frac_step (r m : Nat) : r / 10 ^ (9 - (m + 1)) / 10 = r / 10 ^ (9 - (m + 1) + 1) := by
  rw [Nat.pow_succ, ← Nat.div_div_eq_div_mul]

end Go.Proofs.Qxb6602634aDoor
