/-
  THE PLAIN MATHEMATICS OF '%016x': sixteen digits in base sixteen; their order; no Go in sight.
-/
import GoSem.Extern.FmtText
import GoSem.Op.String
namespace Go.Proofs.Qxb6604615aFmt
open Go.Extern

/-- The k lowest digits in base sixteen of n, the highest first. -/
def hexN : Nat → Nat → List UInt8
  | 0, _ => []
  | k + 1, n => FmtText.digit false (n / 16 ^ k % 16) :: hexN k n

theorem hexN_length (k n : Nat) : (hexN k n).length = k := by
  induction k with
  | zero => rfl
  | succ k ih => simp [hexN, ih]

theorem hexN_snoc (m u : Nat) : hexN (m + 1) u = hexN m (u / 16) ++ [FmtText.digit false (u % 16)] := by
  induction m generalizing u with
  | zero => simp [hexN]
  | succ m ih =>
    have e : u / 16 ^ (m + 1) = u / 16 / 16 ^ m := by rw [Nat.div_div_eq_div_mul, Nat.pow_succ, Nat.mul_comm]
    rw [hexN, ih, e]
    rfl

theorem hexN_pad (k u : Nat) (h : u < 16 ^ k) : ∀ j, hexN (k + j) u = List.replicate j 48 ++ hexN k u := by
  intro j
  induction j with
  | zero => simp
  | succ j ih =>
    have hp : 16 ^ k ≤ 16 ^ (k + j) := Nat.pow_le_pow_right (by omega) (by omega)
    have e : u / 16 ^ (k + j) = 0 := Nat.div_eq_of_lt (by omega)
    rw [← Nat.add_assoc, hexN, ih, e]
    rfl

theorem digitsFrom_hex (k : Nat) : ∀ (fuel u : Nat) (acc : List UInt8), k + 1 ≤ fuel → u < 16 ^ (k + 1) → (k = 0 ∨ 16 ^ k ≤ u) →
    FmtText.digitsFrom 16 false fuel u acc = hexN (k + 1) u ++ acc := by
  induction k with
  | zero =>
    intro fuel u acc hf hu _
    obtain ⟨f, rfl⟩ : ∃ f, fuel = f + 1 := ⟨fuel - 1, by omega⟩
    rw [FmtText.digitsFrom, if_pos (by simpa using hu)]
    have e : u % 16 = u := Nat.mod_eq_of_lt (by simpa using hu)
    simp [hexN, e]
  | succ k ih =>
    intro fuel u acc hf hu hk
    obtain ⟨f, rfl⟩ : ∃ f, fuel = f + 1 := ⟨fuel - 1, by omega⟩
    have h1 : 16 ^ (k + 1) ≤ u := by rcases hk with h | h; · omega
                                     · exact h
    have hp : 0 < 16 ^ k := Nat.pow_pos (by omega)
    have hs : 16 ^ (k + 1) = 16 ^ k * 16 := Nat.pow_succ ..
    have hs2 : 16 ^ (k + 1 + 1) = 16 ^ (k + 1) * 16 := Nat.pow_succ ..
    rw [FmtText.digitsFrom, if_neg (by omega), ih f (u / 16) _ (by omega) (by omega) (by right; omega), hexN_snoc (k + 1) u]
    simp

theorem hex_size (m u : Nat) (h : u < 16 ^ (m + 1)) : ∃ k, k ≤ m ∧ u < 16 ^ (k + 1) ∧ (k = 0 ∨ 16 ^ k ≤ u) := by
  induction m with
  | zero => exact ⟨0, Nat.le_refl _, h, Or.inl rfl⟩
  | succ m ih =>
    by_cases hu : u < 16 ^ (m + 1)
    · obtain ⟨k, a, b, c⟩ := ih hu
      exact ⟨k, by omega, b, c⟩
    · exact ⟨m + 1, Nat.le_refl _, h, Or.inr (by omega)⟩

theorem hex16_text (u : Nat) (h : u < 16 ^ 16) : List.replicate (16 - (FmtText.numeral 16 false u).length) 48 ++ FmtText.numeral 16 false u = hexN 16 u := by
  obtain ⟨k, hk, h1, h2⟩ := hex_size 15 u h
  have e : FmtText.numeral 16 false u = hexN (k + 1) u := by
    rw [FmtText.numeral, digitsFrom_hex k 64 u [] (by omega) h1 h2, List.append_nil]
  have e2 := hexN_pad (k + 1) u h1 (15 - k)
  have e3 : k + 1 + (15 - k) = 16 := by omega
  rw [e3] at e2
  rw [e, hexN_length, e2]
  have e4 : 16 - (k + 1) = 15 - k := by omega
  rw [e4]

theorem digit_lt : ∀ d e : Fin 16, decide (FmtText.digit false d.val < FmtText.digit false e.val) = decide (d.val < e.val) := by decide +kernel
theorem digit_eq : ∀ d e : Fin 16, (FmtText.digit false d.val == FmtText.digit false e.val) = decide (d.val = e.val) := by decide +kernel

theorem less_arith (d e r s P : Nat) (la : r < P) (lb : s < P) : (d < e ∨ d = e ∧ r < s) ↔ r + P * d < s + P * e := by
  rcases Nat.lt_trichotomy d e with h | h | h
  · have : P * (d + 1) ≤ P * e := Nat.mul_le_mul_left P h
    rw [Nat.mul_succ] at this
    omega
  · subst h
    omega
  · have : P * (e + 1) ≤ P * d := Nat.mul_le_mul_left P h
    rw [Nat.mul_succ] at this
    omega

theorem hexN_less (k a b : Nat) : Op.bytesLess (hexN k a) (hexN k b) = decide (a % 16 ^ k < b % 16 ^ k) := by
  induction k with
  | zero => simp [hexN, Op.bytesLess, Nat.mod_one]
  | succ k ih =>
    have hd := digit_lt ⟨a / 16 ^ k % 16, Nat.mod_lt _ (by omega)⟩ ⟨b / 16 ^ k % 16, Nat.mod_lt _ (by omega)⟩
    have he := digit_eq ⟨a / 16 ^ k % 16, Nat.mod_lt _ (by omega)⟩ ⟨b / 16 ^ k % 16, Nat.mod_lt _ (by omega)⟩
    simp only at hd he
    have ea : a % 16 ^ (k + 1) = a % 16 ^ k + 16 ^ k * (a / 16 ^ k % 16) := by rw [Nat.pow_succ, Nat.mod_mul]
    have eb : b % 16 ^ (k + 1) = b % 16 ^ k + 16 ^ k * (b / 16 ^ k % 16) := by rw [Nat.pow_succ, Nat.mod_mul]
    have hp : 0 < 16 ^ k := Nat.pow_pos (by omega)
    have la : a % 16 ^ k < 16 ^ k := Nat.mod_lt _ hp
    have lb : b % 16 ^ k < 16 ^ k := Nat.mod_lt _ hp
    rw [hexN, hexN, Op.bytesLess, ih, hd, he, ea, eb]
    rw [Bool.eq_iff_iff]
    simp only [Bool.or_eq_true, Bool.and_eq_true, decide_eq_true_eq]
    exact less_arith _ _ _ _ _ la lb

theorem hexN_getElem (i n : Nat) (h : i < 16) : (hexN 16 n)[i]'(by rw [hexN_length]; exact h) = FmtText.digit false (n / 16 ^ (15 - i) % 16) := by
  have key : ∀ k i (h : i < k), (hexN k n)[i]'(by rw [hexN_length]; exact h) = FmtText.digit false (n / 16 ^ (k - 1 - i) % 16) := by
    intro k
    induction k with
    | zero => intro i h; omega
    | succ k ih =>
      intro i h
      cases i with
      | zero => simp [hexN]
      | succ i =>
        simp only [hexN, List.getElem_cons_succ]
        rw [ih i (by omega)]
        have e : k + 1 - 1 - (i + 1) = k - 1 - i := by omega
        rw [e]
  exact key 16 i h

end Go.Proofs.Qxb6604615aFmt
