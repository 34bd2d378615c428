/-
  SLICES OF STRINGS AS THE WALKS MEET THEM; the functions that copy them; JoinRoles.
-/
import Derived.Test.Qxb6602936aShelf
import Derived.WalkKit
import Derived.WalkSpells
import Derived.WalkLawsBesides
import Derived.Deep.OwnRows
import Derived.Lib.SliceRun
import Derived.Lib.Join
import Derived.Lib.Hide
namespace Go.Proofs.Qxb6602936a
open Go.RowKit

/-- The slice at a holds the strings xs. -/
def Has (w : World) (a : Option Addr) (xs : List ByteArray) : Prop :=
  ∀ j, j < xs.length → ∃ b o, a = some ⟨b, o, none⟩ ∧ b < w.heap.size ∧ w.cell? ⟨b, o + j, none⟩ = some (.string (xs.getD j ByteArray.empty))

theorem Has.below {w w' : World} {a : Option Addr} {xs : List ByteArray} (h : Has w a xs) (hb : Below w.heap.size w w') : Has w' a xs := by
  intro j hj
  obtain ⟨b, o, e, hl, hc⟩ := h j hj
  exact ⟨b, o, e, Nat.lt_of_lt_of_le hl hb.size, (hb.cell (p := ⟨b, o + j, none⟩) hl).trans hc⟩
theorem Has.drewN {w : World} {a : Option Addr} {xs : List ByteArray} (h : Has w a xs) (q : Nat) : Has (w.drewN q) a xs := by
  intro j hj
  obtain ⟨b, o, e, hl, hc⟩ := h j hj
  exact ⟨b, o, e, hl, hc⟩
theorem has_row {w : World} {g t : Nat} {xs : List ByteArray} (h : w.rowIs g t xs.length (fun j => .string (xs.getD j ByteArray.empty))) : Has w (some ⟨g, 0, none⟩) xs := by
  intro j hj
  exact ⟨g, 0, rfl, h.lt, by rw [Nat.zero_add]; exact h.cell hj⟩
theorem has_nil (w : World) (a : Option Addr) : Has w a [] := fun _ hj => absurd hj (Nat.not_lt_zero _)

theorem info9 : (Try.prog.info? 9).map (fun i => (i.zero, i.size, i.bytes)) = some (some (.string ByteArray.empty), 1, 16) := by kernel_rfl
theorem info29 : (Try.prog.info? 29).map (fun i => (i.zero, i.size, i.bytes)) = some (some (.string ByteArray.empty), 1, 16) := by kernel_rfl

/-- What lies in the new row when k strings are laid. -/
def laidAt (xs : List ByteArray) (k j : Nat) : Value := if j < k then .string (xs.getD j ByteArray.empty) else .string ByteArray.empty
theorem row_step {w : World} {g t n k : Nat} {xs : List ByteArray} (h : w.rowIs g t n (laidAt xs k)) : (w.setCell ⟨g, k, none⟩ (.string (xs.getD k ByteArray.empty))).rowIs g t n (laidAt xs (k + 1)) := by
  refine (h.set k _).congr (fun j _ => ?_)
  unfold laidAt
  by_cases e : j = k
  · subst e
    rw [if_pos rfl, if_pos (by omega)]
  · rw [if_neg e]
    by_cases h1 : j < k
    · rw [if_pos h1, if_pos (by omega)]
    · rw [if_neg h1, if_neg (by omega)]
theorem row_full {w : World} {g t n k : Nat} {xs : List ByteArray} (h : w.rowIs g t n (laidAt xs k)) (hk : n ≤ k) : w.rowIs g t n (fun j => .string (xs.getD j ByteArray.empty)) :=
  h.congr (fun j hj => by unfold laidAt; rw [if_pos (by omega)])
theorem row_start (w : World) (t n : Nat) (xs : List ByteArray) : (w.alloc (.cells (madeCells #[.string ByteArray.empty] n) t)).rowIs w.heap.size t n (laidAt xs 0) :=
  (World.rowIs_made w _ n t).congr (fun j _ => by unfold laidAt; rw [if_neg (by omega)])

set_option maxHeartbeats 400000 in
theorem copy_nil (c : Nat) (w : World) : Calls Try.prog 8 #[.slice none 0 c] w fun e w' => e = .returned (.slice none 0 0) ∧ w' = w := by
  have hnil := fun w => Lib.run_eql_slice_nil (P := Try.prog) w 22 9 none 0 c 0 0 Try.underlying22
  go_enter Try.func8, Try.ntmps8
  go_wp2
  go_ret
  exact ⟨rfl, rfl⟩

set_option maxHeartbeats 400000 in
theorem copy_some (x : Addr) (c n : Nat) (xs : List ByteArray) (hn : xs.length = n) (hl : n ≤ 1048576) (w : World) (h : Has w (some x) xs) :
    Calls Try.prog 8 #[.slice (some x) n c] w fun e w' => e = .returned (.slice (some ⟨w.heap.size, 0, none⟩) n n) ∧ Has w' (some ⟨w.heap.size, 0, none⟩) xs ∧ Below w.heap.size w w' := by
  have hnil := fun w => Lib.run_eql_slice_nil (P := Try.prog) w 22 9 (some x) n c 0 0 Try.underlying22
  have hmk := run_make_row' (P := Try.prog) 22 9 (.string ByteArray.empty) 16 Try.underlying22 info9 rfl .i64 .i64 n (by omega) (by omega)
  have HH := Lib.hid h
  have HN := Lib.hid hn
  clear h hn
  go_enter Try.func8, Try.ntmps8
  go_wp2
  go_loopw [4] (fun i wr => ∃ k : Nat, k ≤ n ∧ i = .int .i64 (k : Int) ∧ wr.rowIs w.heap.size 9 n (laidAt xs k) ∧ Below w.heap.size w wr) (fun i _ => n - (intOf i).toNat)
  case atStart => exact ⟨0, by omega, rfl, row_start w 9 n xs, (Below.refl _ w).alloc (Nat.le_refl _) _⟩
  case round =>
    obtain ⟨k, hk, rfl, hrow, hB⟩ := hrel
    have HR := Lib.hid hrow
    clear hrow
    by_cases hlt : k < n
    · obtain ⟨b, o, hx, hb, hc⟩ := HH.out k (by rw [HN.out]; exact hlt)
      cases hx
      have hc1 := (hB.cell (p := ⟨b, o + k, none⟩) hb).trans hc
      have hc2 := HR.out.cell hlt
      have hf2 := HR.out.frozen k
      clear hc
      go_wp2
      go_roundw
      case rel => exact ⟨k + 1, by omega, by go_num, row_step HR.out, hB.setCell (Nat.le_refl _) _⟩
      case measure => simp [intOf]; omega
    · go_wp2
      go_ret
      refine ⟨rfl, has_row (t := 9) ?_, hB⟩
      rw [HN.out]
      exact row_full HR.out (by omega)
set_option maxHeartbeats 400000 in
theorem roles_nil (c : Nat) (w : World) : Calls Try.prog 10 #[.slice none 0 c] w fun e w' => e = .returned (.slice none 0 0) ∧ w' = w := by
  have hnil := fun w => Lib.run_eql_slice_nil (P := Try.prog) w 22 9 none 0 c 0 0 Try.underlying22
  go_enter Try.func10, Try.ntmps10
  go_wp2
  go_ret
  exact ⟨rfl, rfl⟩

set_option maxHeartbeats 400000 in
theorem roles_some (x : Addr) (c n : Nat) (xs : List ByteArray) (hn : xs.length = n) (hl : n ≤ 1048576) (w : World) (h : Has w (some x) xs) :
    Calls Try.prog 10 #[.slice (some x) n c] w fun e w' => e = .returned (.slice (some ⟨w.heap.size, 0, none⟩) n n) ∧ Has w' (some ⟨w.heap.size, 0, none⟩) xs ∧ Below w.heap.size w w' := by
  have hnil := fun w => Lib.run_eql_slice_nil (P := Try.prog) w 22 9 (some x) n c 0 0 Try.underlying22
  have hmk := run_make_row' (P := Try.prog) 26 29 (.string ByteArray.empty) 16 Try.underlying26 info29 rfl .i64 .i64 n (by omega) (by omega)
  have HH := Lib.hid h
  have HN := Lib.hid hn
  clear h hn
  go_enter Try.func10, Try.ntmps10
  go_wp2
  go_loopw [4] (fun i wr => ∃ k : Nat, k ≤ n ∧ i = .int .i64 (k : Int) ∧ wr.rowIs w.heap.size 29 n (laidAt xs k) ∧ Below w.heap.size w wr) (fun i _ => n - (intOf i).toNat)
  case atStart => exact ⟨0, by omega, rfl, row_start w 29 n xs, (Below.refl _ w).alloc (Nat.le_refl _) _⟩
  case round =>
    obtain ⟨k, hk, rfl, hrow, hB⟩ := hrel
    have HR := Lib.hid hrow
    clear hrow
    by_cases hlt : k < n
    · obtain ⟨b, o, hx, hb, hc⟩ := HH.out k (by rw [HN.out]; exact hlt)
      cases hx
      have hc1 := (hB.cell (p := ⟨b, o + k, none⟩) hb).trans hc
      have hc2 := HR.out.cell hlt
      have hf2 := HR.out.frozen k
      clear hc
      go_wp2
      go_roundw
      case rel => exact ⟨k + 1, by omega, by go_num, row_step HR.out, hB.setCell (Nat.le_refl _) _⟩
      case measure => simp [intOf]; omega
    · go_wp2
      go_ret
      refine ⟨rfl, has_row (t := 29) ?_, hB⟩
      rw [HN.out]
      exact row_full HR.out (by omega)

/-- zzStoreB1CopyStrings, whatever slice. -/
theorem copy_any (a : Option Addr) (c n : Nat) (xs : List ByteArray) (hn : xs.length = n) (hl : n ≤ 1048576) (w : World) (h : Has w a xs) (ha : a = none → n = 0) :
    Calls Try.prog 8 #[.slice a n c] w fun e w' => ∃ a' c', e = .returned (.slice a' n c') ∧ Has w' a' xs ∧ (a' = none → n = 0) ∧ Below w.heap.size w w' := by
  cases a with
  | none =>
    have h0 := ha rfl
    subst h0
    have hx : xs = [] := List.eq_nil_of_length_eq_zero hn
    subst hx
    refine (copy_nil c w).mono fun e w' ⟨he, hw⟩ => ?_
    subst hw
    exact ⟨none, 0, he, has_nil _ _, fun _ => rfl, Below.refl _ _⟩
  | some x =>
    refine (copy_some x c n xs hn hl w h).mono fun e w' ⟨he, h1, h2⟩ => ?_
    exact ⟨_, _, he, h1, fun h => (by cases h), h2⟩
/-- zzStoreB1RolesOf, whatever slice. -/
theorem roles_any (a : Option Addr) (c n : Nat) (xs : List ByteArray) (hn : xs.length = n) (hl : n ≤ 1048576) (w : World) (h : Has w a xs) (ha : a = none → n = 0) :
    Calls Try.prog 10 #[.slice a n c] w fun e w' => ∃ a' c', e = .returned (.slice a' n c') ∧ Has w' a' xs ∧ Below w.heap.size w w' := by
  cases a with
  | none =>
    have h0 := ha rfl
    subst h0
    have hx : xs = [] := List.eq_nil_of_length_eq_zero hn
    subst hx
    refine (roles_nil c w).mono fun e w' ⟨he, hw⟩ => ?_
    subst hw
    exact ⟨none, 0, he, has_nil _ _, Below.refl _ _⟩
  | some x =>
    refine (roles_some x c n xs hn hl w h).mono fun e w' ⟨he, h1, h2⟩ => ?_
    exact ⟨_, _, he, h1, h2⟩

/-- The text that JoinRoles makes. -/
def joined (xs : List ByteArray) : List UInt8 := Lib.join (xs.map (·.data.toList)) [44]

set_option maxHeartbeats 400000 in
theorem join_any (a : Option Addr) (c n : Nat) (xs : List ByteArray) (hn : xs.length = n) (hl : n ≤ 1048576) (hj : (joined xs).length ≤ 4194304) (w : World) (h : Has w a xs) :
    Calls Try.prog 9 #[.slice a n c] w fun e w' => ∃ s : ByteArray, e = .returned (.string s) ∧ s.data.toList = joined xs ∧ Below w.heap.size w w' := by
  have hmk := run_make_row' (P := Try.prog) 22 9 (.string ByteArray.empty) 16 Try.underlying22 info9 rfl .i64 .i64 n (by omega) (by omega)
  have HH := Lib.hid h
  have HN := Lib.hid hn
  have HJ := Lib.hid hj
  clear h hn hj
  go_enter Try.func9, Try.ntmps9
  go_wp2
  go_loopw [11] (fun i wr => ∃ k : Nat, k ≤ n ∧ i = .int .i64 (k : Int) ∧ wr.rowIs w.heap.size 9 n (laidAt xs k) ∧ Below w.heap.size w wr) (fun i _ => n - (intOf i).toNat)
  case atStart => exact ⟨0, by omega, rfl, row_start w 9 n xs, (Below.refl _ w).alloc (Nat.le_refl _) _⟩
  case round =>
    obtain ⟨k, hk, rfl, hrow, hB⟩ := hrel
    have HR := Lib.hid hrow
    clear hrow
    by_cases hlt : k < n
    · obtain ⟨b, o, hx, hb, hc⟩ := HH.out k (by rw [HN.out]; exact hlt)
      subst hx
      have hc1 := (hB.cell (p := ⟨b, o + k, none⟩) hb).trans hc
      have hc2 := HR.out.cell hlt
      have hf2 := HR.out.frozen k
      clear hc
      go_wp2
      go_roundw
      case rel => exact ⟨k + 1, by omega, by go_num, row_step HR.out, hB.setCell (Nat.le_refl _) _⟩
      case measure => simp [intOf]; omega
    · have hrow := row_full HR.out (by omega)
      have hcell : ∀ (j : Nat) x, xs[j]? = some x → wr.cell? ⟨w.heap.size, 0 + j, none⟩ = some (.string x) := by
        intro j x hx
        have hjl : j < xs.length := (List.getElem?_eq_some_iff.1 hx).1
        rw [Nat.zero_add, hrow.cell (by rw [HN.out] at hjl; exact hjl)]
        simp [List.getD, hx]
      have cj := Try.strings_Join w.heap.size 0 n xs ⟨#[44]⟩ wr hcell hrow.lt (by rw [HN.out]; omega) (by rw [HN.out]; omega) (by have := HJ.out; unfold joined at this; exact Nat.le_trans this (by omega))
      rw [HN.out] at cj
      clear hcell hrow HR
      go_wp2_with fail
      refine cj.mono ?_
      rintro e w1 ⟨rfl, hb1⟩
      go_wp2
      go_ret
      exact ⟨_, rfl, rfl, hB.trans (hb1.mono hB.size)⟩
end Go.Proofs.Qxb6602936a
