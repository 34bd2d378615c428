/-
  ZZAppendText; b1CloneBytes; the two bounds on lengths.
-/
import Derived.Test.Qxb6602634aDoorApp
import Derived.WalkSpells
import Derived.WalkLawsBesides
import Derived.Deep.OwnRows
import Derived.Lib.SliceRun
namespace Go.Proofs.Qxb6602634aDoor
open Go.RowKit Go.Lib

set_option maxHeartbeats 400000 in
theorem zz_app (B n : Nat) (d : Int) (h1 : -9223372036854775808 ≤ d) (h2 : d ≤ 9223372036854775807) (sv : Value) (xs : List Value) (w : World) (hown : w.ownsRow B 5 1 sv n xs) (hfull : NoRoom sv n) (hBw : B ≤ w.heap.size) (hlim : n + 64 ≤ 140737488355328)
    (htab : Lib.TabIs Tryd.prog w Tryd.pow10Name .u64 Lib.pow10Tab) :
    Calls Tryd.prog 7 #[.int .i64 d, sv] w fun e w' => ∃ v', e = .returned v' ∧ w'.ownsRow w.heap.size 5 1 v' (n + (usdText d).length) (xs ++ Lib.byteCells (usdText d)) ∧ Below w.heap.size w w' := by
  have c : Calls Tryd.prog 11 #[.int .i64 d, sv] w fun e w' => ∃ v', e = .returned v' ∧ w'.ownsRow w.heap.size 5 1 v' (n + (usdText d).length) (xs ++ Lib.byteCells (usdText d)) ∧ Below w.heap.size w w' := by
    by_cases hd : d < 0
    · obtain ⟨m, rfl⟩ : ∃ m : Nat, d = -(m : Int) := ⟨d.natAbs, by omega⟩
      rw [usdText, if_pos hd, Int.natAbs_neg, Int.natAbs_natCast]
      exact app_neg B n m (by omega) (by omega) sv xs w hown hfull hBw hlim htab
    · obtain ⟨m, rfl⟩ : ∃ m : Nat, d = (m : Int) := ⟨d.natAbs, by omega⟩
      rw [usdText, if_neg hd, Int.natAbs_natCast]
      exact app_pos B n m (by omega) sv xs w hown hfull hBw hlim htab
  clear hown hfull htab
  go_enter Tryd.func7, Tryd.ntmps7
  go_wp2_with fail
  refine c.mono ?_
  rintro e w1 ⟨v', rfl, h3, h4⟩
  have H3 : Hid (w1.ownsRow w.heap.size 5 1 v' (n + (usdText d).length) (xs ++ Lib.byteCells (usdText d))) := h3
  clear h3
  go_wp2
  go_ret
  exact ⟨v', rfl, H3.out, h4⟩

/-- A row of the call's own, whole, is owned. -/
theorem owns_row {w : World} {b t n : Nat} {f : Nat → Value} (h : w.rowIs b t n f) (hn : n ≤ maxLen) : w.ownsRow b t 1 (.slice (some ⟨b, 0, none⟩) n n) n ((List.range n).map f) := by
  obtain ⟨c, h1, h2, h3⟩ := h
  refine ⟨by simp, .inr ⟨b, n, c, rfl, Nat.le_refl _, h1, Nat.le_refl _, hn, by rw [h2, Nat.mul_one], ?_⟩⟩
  apply List.ext_getElem?
  intro i
  rw [Nat.mul_one, List.getElem?_take, List.getElem?_map]
  by_cases hi : i < n
  · rw [if_pos hi, List.getElem?_range hi, Array.getElem?_toList, h3 i hi]
    rfl
  · rw [if_neg hi, List.getElem?_eq_none (by simp; omega)]
    rfl

theorem range_getD (zs : List Int) : (List.range zs.length).map (fun j => Value.int .u8 (zs.getD j 0)) = zs.map (Value.int .u8) := by
  apply List.ext_getElem?
  intro i
  rw [List.getElem?_map, List.getElem?_map]
  by_cases hi : i < zs.length
  · rw [List.getElem?_range hi, List.getElem?_eq_getElem hi]
    simp [List.getD, hi]
  · rw [List.getElem?_eq_none (by simp; omega), List.getElem?_eq_none (by omega)]
    rfl

set_option maxHeartbeats 400000 in
theorem clone_nil (w : World) : Calls Tryd.prog 6 #[.slice none 0 0] w fun e w' => e = .returned (.slice none 0 0) ∧ w' = w := by
  have hnil := fun w => Lib.run_eql_slice_nil (P := Tryd.prog) w 22 5 none 0 0 0 0 Tryd.underlying22
  go_enter Tryd.func6, Tryd.ntmps6
  go_wp2
  go_ret
  exact ⟨rfl, rfl⟩

set_option maxHeartbeats 400000 in
theorem clone_some (b off n cap : Nat) (zs : List Int) (hz : zs.length = n) (hn : n ≤ 1048576) (w : World) (hc : ∀ i, i < n → w.cell? ⟨b, off + i, none⟩ = some (.int .u8 (zs.getD i 0))) (hb : b < w.heap.size) :
    Calls Tryd.prog 6 #[.slice (some ⟨b, off, none⟩) n cap] w fun e w' => e = .returned (.slice (some ⟨w.heap.size, 0, none⟩) n n) ∧ w'.ownsRow w.heap.size 5 1 (.slice (some ⟨w.heap.size, 0, none⟩) n n) n (zs.map (Value.int .u8)) ∧ Below w.heap.size w w' := by
  have hnil := fun w => Lib.run_eql_slice_nil (P := Tryd.prog) w 22 5 (some ⟨b, off, none⟩) n cap 0 0 Tryd.underlying22
  have hmk := run_make_row' (P := Tryd.prog) 22 5 (.int .u8 0) 1 Tryd.underlying22 info5 rfl .i64 .i64 n (by omega) (by omega)
  have HC : Hid (∀ i, i < n → w.cell? ⟨b, off + i, none⟩ = some (.int .u8 (zs.getD i 0))) := hc
  have HZ : Hid (zs.length = n) := hz
  clear hc hz
  go_enter Tryd.func6, Tryd.ntmps6
  go_wp2
  go_loopw [4] (fun i wr => ∃ k : Nat, k ≤ n ∧ i = .int .i64 (k : Int) ∧ wr.rowIs w.heap.size 5 n (fun j => if j < k then .int .u8 (zs.getD j 0) else .int .u8 0) ∧ Below w.heap.size w wr) (fun i _ => n - (RowKit.intOf i).toNat)
  case atStart => exact ⟨0, by omega, rfl, (World.rowIs_made w _ n 5).congr (fun j _ => by simp), (Below.refl _ w).alloc (Nat.le_refl _) _⟩
  case round =>
    obtain ⟨k, hk, rfl, hrow, hB⟩ := hrel
    by_cases hlt : k < n
    · have hc1 := (hB.cell (p := ⟨b, off + k, none⟩) hb).trans (HC.out k hlt)
      have hc2 := hrow.cell hlt
      have hf2 := hrow.frozen k
      rw [if_neg (Nat.lt_irrefl k)] at hc2
      have HR : Hid (wr.rowIs w.heap.size 5 n (fun j => if j < k then .int .u8 (zs.getD j 0) else .int .u8 0)) := hrow
      clear hrow
      go_wp2
      go_roundw
      case rel =>
        refine ⟨k + 1, by omega, by go_num, (HR.out.set k _).congr (fun j _ => ?_), hB.setCell (Nat.le_refl _) _⟩
        by_cases e : j = k
        · subst e
          rw [if_pos rfl, if_pos (by omega)]
          simp [List.getD]
        · rw [if_neg e]
          by_cases h : j < k
          · rw [if_pos h, if_pos (by omega)]
          · rw [if_neg h, if_neg (by omega)]
      case measure => simp [RowKit.intOf]; omega
    · have HR : Hid (wr.rowIs w.heap.size 5 n (fun j => if j < k then .int .u8 (zs.getD j 0) else .int .u8 0)) := hrow
      clear hrow
      go_wp2
      go_ret
      refine ⟨rfl, ?_, hB⟩
      have h1 := owns_row (HR.out.congr (g := fun j => .int .u8 (zs.getD j 0)) (fun j hj => by rw [if_pos (by omega)])) (by unfold maxLen; omega)
      have e := range_getD zs
      rw [HZ.out] at e
      rw [e] at h1
      exact h1

set_option maxHeartbeats 400000 in
theorem clone_empty (x : Addr) (cap : Nat) (w : World) :
    Calls Tryd.prog 6 #[.slice (some x) 0 cap] w fun e w' => e = .returned (.slice (some ⟨w.heap.size, 0, none⟩) 0 0) ∧ w'.ownsRow w.heap.size 5 1 (.slice (some ⟨w.heap.size, 0, none⟩) 0 0) 0 (([] : List Int).map (Value.int .u8)) ∧ Below w.heap.size w w' := by
  have hnil := fun w => Lib.run_eql_slice_nil (P := Tryd.prog) w 22 5 (some x) 0 cap 0 0 Tryd.underlying22
  have hmk : ∀ w : World, (Instr.makeSlice 22 (.int .i64 0) (.int .i64 0)).run Tryd.prog w = .ok (.slice (some ⟨w.heap.size, 0, none⟩) 0 0) (w.alloc (.cells (madeCells #[.int .u8 0] 0) 5)) := run_make_row' (P := Tryd.prog) 22 5 (.int .u8 0) 1 Tryd.underlying22 info5 rfl .i64 .i64 0 (by omega) (by omega)
  go_enter Tryd.func6, Tryd.ntmps6
  go_wp2
  go_loopw [4] (fun i wr => i = .int .i64 0 ∧ Hid (wr.rowIs w.heap.size 5 0 (fun _ => .int .u8 0)) ∧ Below w.heap.size w wr) (fun _ _ => 0)
  case atStart => exact ⟨rfl, World.rowIs_made w _ 0 5, (Below.refl _ w).alloc (Nat.le_refl _) _⟩
  case round =>
    obtain ⟨rfl, HR, hB⟩ := hrel
    go_wp2
    go_ret
    exact ⟨rfl, owns_row HR.out (by decide), hB⟩

set_option maxHeartbeats 400000 in
theorem bytes5 (d : Int) (a : Option Addr) (n cap : Nat) (hn : n ≤ 1048576) (w : World) : Calls Tryd.prog 5 #[.int .i64 d, .slice a n cap] w fun e w' => e = .returned (.bool true) ∧ w' = w := by
  go_enter Tryd.func5, Tryd.ntmps5
  go_wp2
  go_ret
  exact ⟨rfl, rfl⟩
set_option maxHeartbeats 400000 in
theorem bytes5_no (d : Int) (a : Option Addr) (n cap : Nat) (hn : 1048576 < n) (hm : n ≤ maxLen) (w : World) : Calls Tryd.prog 5 #[.int .i64 d, .slice a n cap] w fun e w' => e = .returned (.bool false) ∧ w' = w := by
  unfold maxLen at hm
  go_enter Tryd.func5, Tryd.ntmps5
  go_wp2
  go_ret
  exact ⟨rfl, rfl⟩
set_option maxHeartbeats 400000 in
theorem bytes9 (d : Int) (a : Option Addr) (n cap : Nat) (hn : n ≤ 1048576) (w : World) : Calls Tryd.prog 9 #[.int .i64 d, .slice a n cap] w fun e w' => e = .returned (.bool true) ∧ w' = w := by
  go_enter Tryd.func9, Tryd.ntmps9
  go_wp2
  go_ret
  exact ⟨rfl, rfl⟩
set_option maxHeartbeats 400000 in
theorem bytes9_no (d : Int) (a : Option Addr) (n cap : Nat) (hn : 1048576 < n) (hm : n ≤ maxLen) (w : World) : Calls Tryd.prog 9 #[.int .i64 d, .slice a n cap] w fun e w' => e = .returned (.bool false) ∧ w' = w := by
  unfold maxLen at hm
  go_enter Tryd.func9, Tryd.ntmps9
  go_wp2
  go_ret
  exact ⟨rfl, rfl⟩
end Go.Proofs.Qxb6602634aDoor
