/-
  THE NOTIFY TYPES' TABLE AND THE DECIMAL NUMERAL, plain.
-/
import Derived.Lib.ItoaNum
import Derived.WalkKit
namespace Go.Proofs.Qxb6604615aFmt

def nm0 : ByteArray := ⟨#[85, 78, 83, 85, 80, 80, 79, 82, 84, 69, 68, 95, 67, 82, 73, 84, 73, 67, 65, 76, 95, 80, 65, 89, 76, 79, 65, 68]⟩
def nm1 : ByteArray := ⟨#[73, 78, 86, 65, 76, 73, 68, 95, 83, 89, 78, 84, 65, 88]⟩
def nm2 : ByteArray := ⟨#[78, 79, 95, 80, 82, 79, 80, 79, 83, 65, 76, 95, 67, 72, 79, 83, 69, 78]⟩
def nm3 : ByteArray := ⟨#[73, 78, 86, 65, 76, 73, 68, 95, 75, 69, 95, 80, 65, 89, 76, 79, 65, 68]⟩
def nm4 : ByteArray := ⟨#[65, 85, 84, 72, 69, 78, 84, 73, 67, 65, 84, 73, 79, 78, 95, 70, 65, 73, 76, 69, 68]⟩
def nm5 : ByteArray := ⟨#[78, 79, 95, 65, 68, 68, 73, 84, 73, 79, 78, 65, 76, 95, 83, 65, 83]⟩
def nm6 : ByteArray := ⟨#[84, 83, 95, 85, 78, 65, 67, 67, 69, 80, 84, 65, 66, 76, 69]⟩
def nm7 : ByteArray := ⟨#[84, 83, 95, 77, 65, 88, 95, 81, 85, 69, 85, 69]⟩
def nm8 : ByteArray := ⟨#[73, 78, 73, 84, 73, 65, 76, 95, 67, 79, 78, 84, 65, 67, 84]⟩
def nm9 : ByteArray := ⟨#[78, 65, 84, 95, 68, 69, 84, 69, 67, 84, 73, 79, 78, 95, 83, 79, 85, 82, 67, 69, 95, 73, 80]⟩
def nm10 : ByteArray := ⟨#[78, 65, 84, 95, 68, 69, 84, 69, 67, 84, 73, 79, 78, 95, 68, 69, 83, 84, 73, 78, 65, 84, 73, 79, 78, 95, 73, 80]⟩
def nm11 : ByteArray := ⟨#[67, 79, 79, 75, 73, 69]⟩
def nm12 : ByteArray := ⟨#[82, 69, 75, 69, 89, 95, 83, 65]⟩
def nm13 : ByteArray := ⟨#[83, 65, 95, 82, 69, 83, 79, 85, 82, 67, 69, 95, 73, 78, 70, 79]⟩
def codes : List Nat := [1, 7, 14, 17, 24, 35, 38, 48, 16384, 16388, 16389, 16390, 16393, 16444]
def nms : List ByteArray := [nm0, nm1, nm2, nm3, nm4, nm5, nm6, nm7, nm8, nm9, nm10, nm11, nm12, nm13]

theorem dec_size (n : Nat) (h : n < 65536) : ∃ k, k ≤ 4 ∧ Lib.nDigits n = k + 1 ∧ (k = 0 ∨ 10 ^ k ≤ n) := by
  by_cases h1 : n < 10
  · exact ⟨0, by omega, Lib.nDigits_small h1, Or.inl rfl⟩
  by_cases h2 : n < 100
  · exact ⟨1, by omega, Lib.nDigits_unique 1 n (by omega) (by omega), Or.inr (by omega)⟩
  by_cases h3 : n < 1000
  · exact ⟨2, by omega, Lib.nDigits_unique 2 n (by omega) (by omega), Or.inr (by omega)⟩
  by_cases h4 : n < 10000
  · exact ⟨3, by omega, Lib.nDigits_unique 3 n (by omega) (by omega), Or.inr (by omega)⟩
  · exact ⟨4, by omega, Lib.nDigits_unique 4 n (by omega) (by omega), Or.inr (by omega)⟩

theorem byte_dec (d : ByteArray) (n k j : Nat) (hd : d.data.toList = Lib.decDigits n) (hk : Lib.nDigits n = k + 1) (h : j < d.size) :
    d[j].toNat = 48 + n / 10 ^ (k - j) % 10 := by
  have e : d[j] = Lib.dg n (k - j) := by
    have e1 : d[j] = d.data.toList[j]'(by simpa using h) := rfl
    rw [e1]
    simp only [hd, Lib.decDigits_eq, hk]
    rw [List.getElem_map, List.getElem_range]
    simp
  rw [e, Lib.dg, UInt8.toNat_ofNat']
  omega

theorem dec_step (n k j : Nat) (hj : j ≤ k) : n / 10 ^ (k + 1 - j) * 10 + n / 10 ^ (k - j) % 10 = n / 10 ^ (k + 1 - (j + 1)) := by
  have e1 : k + 1 - (j + 1) = k - j := by omega
  have e2 : k + 1 - j = k - j + 1 := by omega
  rw [e1, e2, Nat.pow_succ, ← Nat.div_div_eq_div_mul]
  omega

theorem dec_step_int (n k j : Nat) (x : Int) (hn : n < 65536) (hj : j ≤ k) (hx : x = ((48 + n / 10 ^ (k - j) % 10 : Nat) : Int)) :
    IntKind.u64.wrap (IntKind.u64.wrap ((n : Int) / 10 ^ (k + 1 - j) * 10) + (x - 48)) = ((n / 10 ^ (k + 1 - (j + 1)) : Nat) : Int) := by
  have e : (n : Int) / 10 ^ (k + 1 - j) = ((n / 10 ^ (k + 1 - j) : Nat) : Int) := by simp
  have h1 := dec_step n k j hj
  have h2 := Nat.div_le_self n (10 ^ (k + 1 - j))
  have h3 := Nat.div_le_self n (10 ^ (k + 1 - (j + 1)))
  have hm : n / 10 ^ (k - j) % 10 < 10 := Nat.mod_lt _ (by omega)
  rw [e, hx]
  generalize n / 10 ^ (k + 1 - j) = a at *
  generalize n / 10 ^ (k - j) % 10 = b at *
  generalize n / 10 ^ (k + 1 - (j + 1)) = c at *
  simp [IntKind.wrap, IntKind.bits, IntKind.signed]
  omega

theorem lead_dec (n k : Nat) (h : 10 ^ k ≤ n) (hlt : n < 10 ^ (k + 1)) : n / 10 ^ k % 10 ≠ 0 := by
  have hp : 0 < 10 ^ k := Nat.pow_pos (by omega)
  have h1 : 1 ≤ n / 10 ^ k := (Nat.le_div_iff_mul_le hp).2 (by omega)
  have h2 : n / 10 ^ k < 10 := (Nat.div_lt_iff_lt_mul hp).2 (by rw [Nat.mul_comm, ← Nat.pow_succ]; exact hlt)
  omega

def pre : List UInt8 := [110, 111, 116, 105, 102, 121, 84, 121, 112, 101, 40]
def codeOf (i : Nat) : Nat := codes.getD i 0
def nameOf (i : Nat) : ByteArray := nms.getD i ByteArray.empty
/-- What the notify type's text is: its name, or its number in brackets. -/
def IsText (s : ByteArray) (n : Nat) : Prop :=
  (∃ i, i < 14 ∧ codeOf i = n ∧ s = nameOf i) ∨ ((∀ i, i < 14 → codeOf i ≠ n) ∧ s.data.toList = pre ++ Lib.decDigits n ++ [41])

theorem names_apart : ∀ i j : Fin 14, i ≠ j → nameOf i.val ≠ nameOf j.val := by decide +kernel
theorem names_head : ∀ i : Fin 14, (nameOf i.val).data.toList.head? ≠ some 110 := by decide +kernel
theorem codes_apart : ∀ i j : Fin 14, codeOf i.val = codeOf j.val → i = j := by decide +kernel

theorem is_name (i n : Nat) (c : Int) (hi : i < 14) (hc : ((codeOf i : Nat) : Int) = c) (h : ((n : Int) == c) = true) : IsText (nameOf i) n := by
  rw [beq_iff_eq] at h
  exact Or.inl ⟨i, hi, by omega, rfl⟩
theorem is_none (n : Nat) (h0 : ((n : Int) == 1) = false) (h1 : ((n : Int) == 7) = false) (h2 : ((n : Int) == 14) = false) (h3 : ((n : Int) == 17) = false) (h4 : ((n : Int) == 24) = false) (h5 : ((n : Int) == 35) = false) (h6 : ((n : Int) == 38) = false) (h7 : ((n : Int) == 48) = false) (h8 : ((n : Int) == 16384) = false) (h9 : ((n : Int) == 16388) = false) (h10 : ((n : Int) == 16389) = false) (h11 : ((n : Int) == 16390) = false) (h12 : ((n : Int) == 16393) = false) (h13 : ((n : Int) == 16444) = false) : ∀ i, i < 14 → codeOf i ≠ n := by
  rw [beq_eq_false_iff_ne] at h0 h1 h2 h3 h4 h5 h6 h7 h8 h9 h10 h11 h12 h13
  intro i hi
  match i, hi with
  | 0, _ => show 1 ≠ n; omega
  | 1, _ => show 7 ≠ n; omega
  | 2, _ => show 14 ≠ n; omega
  | 3, _ => show 17 ≠ n; omega
  | 4, _ => show 24 ≠ n; omega
  | 5, _ => show 35 ≠ n; omega
  | 6, _ => show 38 ≠ n; omega
  | 7, _ => show 48 ≠ n; omega
  | 8, _ => show 16384 ≠ n; omega
  | 9, _ => show 16388 ≠ n; omega
  | 10, _ => show 16389 ≠ n; omega
  | 11, _ => show 16390 ≠ n; omega
  | 12, _ => show 16393 ≠ n; omega
  | 13, _ => show 16444 ≠ n; omega
  | k + 14, hi => omega

theorem names_differ (k i : Nat) (hk : k < 14) (hi : i < 14) (h : k ≠ i) : ((nameOf k).toList == (nameOf i).toList) = false := by
  have := names_apart ⟨k, hk⟩ ⟨i, hi⟩ (by intro e; exact h (congrArg Fin.val e))
  rw [ByteArray.toList_eq, ByteArray.toList_eq, beq_eq_false_iff_ne]
  intro e
  exact this (ByteArray.ext (Array.toList_inj.1 e))
theorem names_no_num (k : Nat) (hk : k < 14) (s : ByteArray) (l : List UInt8) (hs : s.data.toList = pre ++ l) : ((nameOf k).toList == s.toList) = false := by
  have := names_head ⟨k, hk⟩
  rw [ByteArray.toList_eq, ByteArray.toList_eq, beq_eq_false_iff_ne]
  intro e
  rw [e, hs] at this
  exact this rfl

theorem digit_inj (a b : Nat) (ha : a < 10) (hb : b < 10) (h : UInt8.ofNat (48 + a) = UInt8.ofNat (48 + b)) : a = b := by
  have := congrArg UInt8.toNat h
  rw [UInt8.toNat_ofNat', UInt8.toNat_ofNat'] at this
  omega
theorem decDigits_inj : ∀ n m : Nat, Lib.decDigits n = Lib.decDigits m → n = m := by
  intro n
  induction n using Nat.strongRecOn with
  | _ n ih =>
    intro m h
    have hl := congrArg List.length h
    rw [Lib.decDigits_length, Lib.decDigits_length] at hl
    by_cases h1 : n < 10
    · by_cases h2 : m < 10
      · rw [Lib.decDigits_one h1, Lib.decDigits_one h2] at h
        exact digit_inj n m h1 h2 (by simpa using h)
      · rw [Lib.nDigits_small h1, Lib.nDigits_big h2] at hl
        have := Lib.nDigits_pos (m / 10)
        omega
    · by_cases h2 : m < 10
      · rw [Lib.nDigits_small h2, Lib.nDigits_big h1] at hl
        have := Lib.nDigits_pos (n / 10)
        omega
      · rw [Lib.decDigits.eq_1 n, Lib.decDigits.eq_1 m, dif_neg h1, dif_neg h2] at h
        obtain ⟨e1, e2⟩ := List.append_inj' h rfl
        have e3 := ih (n / 10) (by omega) (m / 10) e1
        have e4 := digit_inj (n % 10) (m % 10) (by omega) (by omega) (by simpa using e2)
        omega

/-- A text tells its type, and a type its text. -/
theorem text_apart (n m : Nat) (s t : ByteArray) (hs : IsText s n) (ht : IsText t m) : (s.toList == t.toList) = ((n : Int) == (m : Int)) := by
  rw [ByteArray.toList_eq, ByteArray.toList_eq, Bool.eq_iff_iff, beq_iff_eq, beq_iff_eq]
  rcases hs with ⟨i, hi, rfl, hs⟩ | ⟨hno, hs⟩
  · rcases ht with ⟨j, hj, rfl, ht⟩ | ⟨hno2, ht⟩
    · constructor
      · intro h
        by_cases e : i = j
        · rw [e]
        · have := names_differ i j hi hj e
          rw [ByteArray.toList_eq, ByteArray.toList_eq, beq_eq_false_iff_ne] at this
          rw [hs, ht] at h
          exact absurd h this
      · intro h
        have e := codes_apart ⟨i, hi⟩ ⟨j, hj⟩ (by simp only; omega)
        have e2 : i = j := congrArg Fin.val e
        rw [hs, ht, e2]
    · constructor
      · intro h
        have := names_no_num i hi t (Lib.decDigits m ++ [41]) (by rw [ht, List.append_assoc])
        rw [ByteArray.toList_eq, ByteArray.toList_eq, beq_eq_false_iff_ne] at this
        rw [hs] at h
        exact absurd h this
      · intro h
        exact absurd (by omega) (hno2 i hi)
  · rcases ht with ⟨j, hj, rfl, ht⟩ | ⟨hno2, ht⟩
    · constructor
      · intro h
        have := names_no_num j hj s (Lib.decDigits n ++ [41]) (by rw [hs, List.append_assoc])
        rw [ByteArray.toList_eq, ByteArray.toList_eq, beq_eq_false_iff_ne] at this
        rw [ht] at h
        exact absurd h.symm this
      · intro h
        exact absurd (by omega) (hno j hj)
    · rw [hs, ht]
      constructor
      · intro h
        have e1 := List.append_cancel_right h
        have e2 := List.append_cancel_left e1
        rw [decDigits_inj n m e2]
      · intro h
        have e : n = m := by omega
        rw [e]
end Go.Proofs.Qxb6604615aFmt
