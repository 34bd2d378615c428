/-
  THE JOINED TEXT, PLACE FOR PLACE: plain mathematics.
-/
import Derived.Test.Qxb6602936aConcat
namespace Go.Proofs.Qxb6602936a
open Go

theorem joined_two (x y : ByteArray) (r : List ByteArray) : joined (x :: y :: r) = x.data.toList ++ 44 :: joined (y :: r) := by
  unfold joined
  rw [List.map_cons, Lib.join_cons, List.map_cons, Lib.join_cons]
  simp [Lib.joinTail]
theorem joined_one (x : ByteArray) : joined [x] = x.data.toList := by
  unfold joined
  rw [List.map_cons, List.map_nil, Lib.join_one]
theorem joined_head (x : ByteArray) (r : List ByteArray) : ∃ l, joined (x :: r) = x.data.toList ++ l := by
  cases r with
  | nil => exact ⟨[], by rw [joined_one, List.append_nil]⟩
  | cons y r => exact ⟨_, joined_two x y r⟩

theorem tot_cons (x : ByteArray) (r : List ByteArray) : tot (x :: r) = x.size + tot r := by simp [tot]

theorem joined_drop (k : Nat) : ∀ xs : List ByteArray, k < xs.length → (joined xs).drop (tot (xs.take k) + k) = joined (xs.drop k) := by
  induction k with
  | zero => intro xs _; simp [tot]
  | succ k ih =>
    intro xs h
    match xs, h with
    | [x], h => simp at h
    | x :: y :: r, h =>
      have h' : k < (y :: r).length := by simp at h ⊢; omega
      have := ih (y :: r) h'
      rw [joined_two, List.take_succ_cons, tot_cons, List.drop_succ_cons, ← this]
      have e : x.size + tot (List.take k (y :: r)) + (k + 1) = x.data.toList.length + (1 + (tot (List.take k (y :: r)) + k)) := by
        have : x.data.toList.length = x.size := by simp
        omega
      rw [e, ← List.drop_drop, List.drop_left, Nat.add_comm 1, List.drop_succ_cons]
theorem joined_comma (k : Nat) : ∀ xs : List ByteArray, k + 1 < xs.length → (joined xs).drop (tot (xs.take (k + 1)) + k) = 44 :: joined (xs.drop (k + 1)) := by
  intro xs h
  have h0 := joined_drop k xs (by omega)
  have e : tot (xs.take (k + 1)) + k = tot (xs.take k) + k + (xs.getD k ByteArray.empty).size := by rw [tot_step xs k (by omega)]; omega
  rw [e, ← List.drop_drop, h0]
  have hd : xs.drop k = xs[k] :: xs[k + 1] :: xs.drop (k + 2) := by
    rw [List.drop_eq_getElem_cons (by omega), List.drop_eq_getElem_cons h]
  have hd1 : xs.drop (k + 1) = xs[k + 1] :: xs.drop (k + 2) := by rw [List.drop_eq_getElem_cons h]
  rw [hd, hd1, joined_two]
  have e2 : (xs.getD k ByteArray.empty) = xs[k] := by simp [List.getD, show k < xs.length by omega]
  have e3 : xs[k].size = xs[k].data.toList.length := by simp
  rw [e2, e3, List.drop_left]

theorem joined_len (xs : List ByteArray) (h : xs ≠ []) : (joined xs).length + 1 = tot xs + xs.length := by
  induction xs with
  | nil => exact absurd rfl h
  | cons x r ih =>
    cases r with
    | nil => rw [joined_one]; simp [tot]
    | cons y r =>
      have := ih (by simp)
      rw [joined_two, List.length_append, List.length_cons, tot_cons, List.length_cons]
      have : x.data.toList.length = x.size := by simp
      omega

/-- A byte of the text at a role's place. -/
theorem joined_at (xs : List ByteArray) (k j : Nat) (hk : k < xs.length) (hj : j < (xs.getD k ByteArray.empty).size) :
    (joined xs)[tot (xs.take k) + k + j]? = some ((xs.getD k ByteArray.empty)[j]) := by
  have h0 := joined_drop k xs hk
  rw [← List.getElem?_drop, h0, List.drop_eq_getElem_cons hk]
  obtain ⟨l, hl⟩ := joined_head xs[k] (xs.drop (k + 1))
  have e2 : (xs.getD k ByteArray.empty) = xs[k] := by simp [List.getD, hk]
  rw [hl]
  simp only [e2] at hj ⊢
  rw [List.getElem?_append_left (by simpa using hj)]
  rw [List.getElem?_eq_getElem (by simpa using hj)]
  rfl
theorem joined_at_comma (xs : List ByteArray) (k : Nat) (hk : k + 1 < xs.length) : (joined xs)[tot (xs.take (k + 1)) + k]? = some 44 := by
  have h0 := joined_comma k xs hk
  have := List.getElem?_drop (xs := joined xs) (i := tot (xs.take (k + 1)) + k) (j := 0)
  rw [h0] at this
  exact this.symm

theorem tot_le (xs : List ByteArray) (k : Nat) : tot (xs.take k) ≤ tot xs := by
  have : tot xs = tot (xs.take k) + tot (xs.drop k) := by rw [← tot_append, List.take_append_drop]
  omega
theorem byte_of {s : ByteArray} {l : List UInt8} (h : s.data.toList = l) (i : Nat) (c : UInt8) (hc : l[i]? = some c) (hi : i < s.size) : s[i] = c := by
  have e : s.data.toList[i]? = some c := by rw [h]; exact hc
  rw [List.getElem?_eq_getElem (by simpa using hi)] at e
  exact Option.some.inj e
end Go.Proofs.Qxb6602936a
