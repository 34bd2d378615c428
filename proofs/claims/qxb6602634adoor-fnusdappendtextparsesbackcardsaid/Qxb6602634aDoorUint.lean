/-
  strconv.AppendUint AT BASE 10 ONTO A SLICE WITHOUT ROOM: a new block; nothing old has turned.
-/
import Derived.Test.Qxb6602634aDoorShelf
import Derived.Test.Qxb6602634aDoorFull
import Derived.Lib.Walk
import Derived.Lib.ItoaWalk
import Derived.Lib.ItoaMem
import Derived.Lib.AppendIntMem
import Derived.Lib.Slices
import Derived.Lib.Hide
import Derived.OwnWalk
import Derived.WalkKit
import Derived.CellFam
namespace Go.Proofs.Qxb6602634aDoor
open Go.RowKit Go.Lib Go.Sort

theorem info5 : (Tryd.prog.info? 5).map (fun i => (i.zero, i.size, i.bytes)) = some (some (.int .u8 0), 1, 1) := by kernel_rfl

theorem owns_le {w : World} {b b' e n : Nat} {v : Value} {xs : List Value} (h : w.ownsRow b e 1 v n xs) (hb : b' ≤ b) : w.ownsRow b' e 1 v n xs := by
  refine ⟨h.1, ?_⟩
  rcases h.2 with h1 | ⟨g, c, cur, h1, h2, h3⟩
  · exact .inl h1
  · exact .inr ⟨g, c, cur, h1, Nat.le_trans hb h2, h3⟩

theorem dec_len (u : Nat) (h : u < 18446744073709551616) : 1 ≤ (Lib.decDigits u).length ∧ (Lib.decDigits u).length ≤ 20 := by
  rw [Lib.decDigits_length]
  refine ⟨Lib.nDigits_pos u, ?_⟩
  by_cases h10 : u < 10
  · rw [Lib.nDigits_small h10]; omega
  · have := Lib.numDigits_eq u (by omega) h
    split at this <;> omega

set_option maxHeartbeats 1000000 in
set_option maxRecDepth 100000 in
theorem au_small (B n u : Nat) (hu : u < 100) (sv : Value) (xs : List Value) (w : World) (hown : w.ownsRow B 5 1 sv n xs) (hfull : NoRoom sv n) (hBw : B ≤ w.heap.size) (hlim : n + 20 ≤ 140737488355328) :
    Calls Tryd.prog 13 #[sv, .int .u64 u, .int .i64 10] w fun e w' => ∃ v', e = .returned v' ∧ w'.ownsRow w.heap.size 5 1 v' (n + (Lib.decDigits u).length) (xs ++ Lib.byteCells (Lib.decDigits u)) ∧ Below w.heap.size w w' := by
  obtain ⟨i0, hi, hz0, hz1, hz2⟩ := info_parts info5
  obtain ⟨hlen1, hlen⟩ := dec_len u (by omega)
  have hsz : (⟨(Lib.decDigits u).toArray⟩ : ByteArray).size = (Lib.decDigits u).length := by simp [ByteArray.size]
  go_enter Tryd.func13, Tryd.ntmps13
  go_wp2_with (first
    | (go_at_call 14; refine (Tryd.internal_strconv_small u hu _).mono ?_; rintro e w' ⟨rfl, rfl⟩)
    | (at_builtin; refine wpList_append_full_string _ rfl _ _ 22 9 rfl B 5 i0 Tryd.underlying22 Tryd.underlying9 hi hz0 hz1 hz2 _ _ _ rfl hown hfull ⟨(Lib.decDigits u).toArray⟩ rfl (by rw [hsz]; exact hlen1) (by rw [hsz]; unfold maxLen; omega) (by rw [hsz]; omega) hBw ?_))
  intro v' w1 hown' hb
  go_wp2
  go_ret
  refine ⟨v', rfl, ?_, hb⟩
  first | exact hown' | (rw [hsz] at hown'; exact hown')

set_option maxHeartbeats 1000000 in
set_option maxRecDepth 100000 in
theorem au_big (B n u : Nat) (hu : 100 ≤ u) (hu64 : u < 18446744073709551616) (sv : Value) (xs : List Value) (w : World) (hown : w.ownsRow B 5 1 sv n xs) (hfull : NoRoom sv n) (hBw : B ≤ w.heap.size) (hlim : n + 20 ≤ 140737488355328)
    (htab : Lib.TabIs Tryd.prog w Tryd.pow10Name .u64 Lib.pow10Tab) :
    Calls Tryd.prog 13 #[sv, .int .u64 u, .int .i64 10] w fun e w' => ∃ v', e = .returned v' ∧ w'.ownsRow w.heap.size 5 1 v' (n + (Lib.decDigits u).length) (xs ++ Lib.byteCells (Lib.decDigits u)) ∧ Below w.heap.size w w' := by
  obtain ⟨i0, hi, hz0, hz1, hz2⟩ := info_parts info5
  have hu1 : 1 ≤ u := by omega
  have hnd20 : Lib.nDigits u ≤ 20 := by have := Lib.numDigits_eq u hu1 hu64; split at this <;> omega
  have hnd1 : 1 ≤ Lib.nDigits u := Lib.nDigits_pos u
  have hal : Tryd.prog.arrayLen 35 = 24 := by simp [Program.arrayLen, Tryd.underlying35]
  have hsl : ∀ W, (Instr.sliceAt 35 (.pointer (some ⟨w.heap.size, 0, none⟩)) none (some (.int .i64 (Lib.nDigits u : Int))) none).run Tryd.prog W = .ok (.slice (some ⟨w.heap.size, 0, none⟩) (Lib.nDigits u) 24) W := fun W => by
    rw [run_sliceAt_array_h W 35 ⟨w.heap.size, 0, none⟩ (by simp [Program.arrayLen, Program.elem, Tryd.underlying35]) .i64 (Lib.nDigits u : Int) (by omega) (by rw [hal]; omega)]
    go_simp
  have hH0 := Lib.holds_zero0 w 35 (Lib.nDigits u) (by omega)
  have hfmt := Tryd.internal_strconv_formatBase10 w.heap.size 0 24 u (Array.replicate (Lib.nDigits u) 0) (w.alloc (.cells Lib.zeros24 35)) hH0 (by rw [Array.size_replicate]; exact Lib.lt_pow_nDigits u) hu64 (by rw [Array.size_replicate]; omega)
  rw [Array.size_replicate] at hfmt
  have HH0 := Lib.hid hH0
  have iu : (100 : Int) ≤ (u : Int) := by omega
  clear hH0 hal
  go_enter Tryd.func13, Tryd.ntmps13
  go_wp2_with (first
    | (go_at_call 15; refine (Tryd.internal_strconv_numDigits u hu1 hu64 _ (Lib.tabIs_alloc htab _)).mono ?_; rintro e w' ⟨rfl, rfl⟩))
  go_at_call 16
  refine hfmt.mono ?_
  rintro e w' ⟨rfl, k, v', dk, rfl, hF⟩
  have hcells : ∀ j u', (Lib.byteCells (Lib.decDigits u))[j]? = some u' → ((putRow (fun (b : UInt8) => Value.int .u8 (b.toNat : Int)) (w.alloc (.cells Lib.zeros24 35)) w.heap.size 0 dk).drewN k).cell? ((⟨w.heap.size, 0, none⟩ : Addr).add j) = some u' := by
    intro j u' hj
    have hjl : j < (Lib.decDigits u).length := by
      have h5 := (List.getElem?_eq_some_iff.1 hj).1
      rwa [Lib.byteCells_length] at h5
    have e5 : (Lib.byteCells (Lib.decDigits u))[j]? = some (Value.int .u8 ((Lib.decDigits u)[j].toNat : Int)) := by simp [Lib.byteCells, hjl]
    rw [e5] at hj
    cases hj
    rw [Lib.row_is_numeral hF j hjl, Lib.add_plain, World.cell?_drewN]
    exact cell?_putRow (fun (b : UInt8) => Value.int .u8 (b.toNat : Int)) _ w.heap.size 0 _ dk HH0.out (by rw [hF.size, Array.size_replicate]) j (by rw [hF.size]; rw [Lib.decDigits_length] at hjl; exact hjl)
  obtain ⟨os, eo⟩ := Lib.fin_at w (.cells Lib.zeros24 35) dk k 0
  have hown2 : ((putRow (fun (b : UInt8) => Value.int .u8 (b.toNat : Int)) (w.alloc (.cells Lib.zeros24 35)) w.heap.size 0 dk).drewN k).ownsRow B 5 1 sv n xs := by rw [eo]; exact Lib.ownsRow_grow hown k os
  have hnx2 : Below w.heap.size w ((putRow (fun (b : UInt8) => Value.int .u8 (b.toNat : Int)) (w.alloc (.cells Lib.zeros24 35)) w.heap.size 0 dk).drewN k) := by rw [eo]; exact Lib.below_grow w.heap.size w (Nat.le_refl _) k os
  have hsz2 : w.heap.size ≤ ((putRow (fun (b : UInt8) => Value.int .u8 (b.toNat : Int)) (w.alloc (.cells Lib.zeros24 35)) w.heap.size 0 dk).drewN k).heap.size := by rw [eo]; exact Lib.size_grow w k os
  generalize (putRow (fun (b : UInt8) => Value.int .u8 (b.toNat : Int)) (w.alloc (.cells Lib.zeros24 35)) w.heap.size 0 dk).drewN k = W2 at hcells hown2 hnx2 hsz2 ⊢
  clear eo HH0 hfmt
  go_wp2_with (at_builtin; refine wpList_append_full _ rfl _ _ 22 rfl B 5 i0 Tryd.underlying22 hi hz0 hz1 hz2 _ _ _ rfl hown2 hfull ⟨w.heap.size, 0, none⟩ (Lib.nDigits u) 24 (Lib.byteCells (Lib.decDigits u)) rfl ?c0 hcells ?c2 ?cm ?c3 ?c4 ?c5 ?_)
  case c0 => rw [Lib.byteCells_length, Lib.decDigits_length]
  case c2 => intro u' hu'; simp only [Lib.byteCells, List.mem_map] at hu'; obtain ⟨b, _, rfl⟩ := hu'; rfl
  case cm => exact hnd1
  case c3 => unfold maxLen; omega
  case c4 => omega
  case c5 => omega
  intro v2 w3 hown' hb3
  go_wp2
  go_ret
  refine ⟨v2, rfl, ?_, hnx2.trans (hb3.mono hsz2)⟩
  rw [Lib.decDigits_length]
  exact owns_le hown' hsz2

theorem au_full (B n u : Nat) (hu64 : u < 18446744073709551616) (sv : Value) (xs : List Value) (w : World) (hown : w.ownsRow B 5 1 sv n xs) (hfull : NoRoom sv n) (hBw : B ≤ w.heap.size) (hlim : n + 20 ≤ 140737488355328)
    (htab : Lib.TabIs Tryd.prog w Tryd.pow10Name .u64 Lib.pow10Tab) :
    Calls Tryd.prog 13 #[sv, .int .u64 u, .int .i64 10] w fun e w' => ∃ v', e = .returned v' ∧ w'.ownsRow w.heap.size 5 1 v' (n + (Lib.decDigits u).length) (xs ++ Lib.byteCells (Lib.decDigits u)) ∧ Below w.heap.size w w' := by
  by_cases h : u < 100
  · exact au_small B n u h sv xs w hown hfull hBw hlim
  · exact au_big B n u (by omega) hu64 sv xs w hown hfull hBw hlim htab

set_option maxHeartbeats 400000 in
/-- strconv.AppendUint: the same, onto a slice without room. -/
theorem su_full (B n u : Nat) (hu64 : u < 18446744073709551616) (sv : Value) (xs : List Value) (w : World) (hown : w.ownsRow B 5 1 sv n xs) (hfull : NoRoom sv n) (hBw : B ≤ w.heap.size) (hlim : n + 20 ≤ 140737488355328)
    (htab : Lib.TabIs Tryd.prog w Tryd.pow10Name .u64 Lib.pow10Tab) :
    Calls Tryd.prog 12 #[sv, .int .u64 u, .int .i64 10] w fun e w' => ∃ v', e = .returned v' ∧ w'.ownsRow w.heap.size 5 1 v' (n + (Lib.decDigits u).length) (xs ++ Lib.byteCells (Lib.decDigits u)) ∧ Below w.heap.size w w' := by
  have c := au_full B n u hu64 sv xs w hown hfull hBw hlim htab
  clear hown hfull htab
  go_enter Tryd.func12, Tryd.ntmps12
  go_wp2_with fail
  refine c.mono ?_
  rintro e w1 ⟨v', rfl, h1, h2⟩
  go_wp2
  go_ret
  exact ⟨v', rfl, h1, h2⟩

set_option maxHeartbeats 400000 in
/-- strconv.AppendUint: onto a slice of the call's own. -/
theorem su_own (B n u : Nat) (hu64 : u < 18446744073709551616) (sv : Value) (xs : List Value) (w : World) (hown : w.ownsRow B 5 1 sv n xs) (hBw : B ≤ w.heap.size) (hlim : n + 20 ≤ 140737488355328)
    (htab : Lib.TabIs Tryd.prog w Tryd.pow10Name .u64 Lib.pow10Tab) :
    Calls Tryd.prog 12 #[sv, .int .u64 u, .int .i64 10] w fun e w' => ∃ v', e = .returned v' ∧ w'.ownsRow B 5 1 v' (n + (Lib.decDigits u).length) (xs ++ Lib.byteCells (Lib.decDigits u)) ∧ Below B w w' := by
  have c := Tryd.internal_strconv_AppendUint_10 B n u hu64 sv xs w hown hBw hlim htab
  clear hown htab
  go_enter Tryd.func12, Tryd.ntmps12
  go_wp2_with fail
  refine c.mono ?_
  rintro e w1 ⟨v', rfl, h1, h2, _⟩
  go_wp2
  go_ret
  exact ⟨v', rfl, h1, h2⟩
end Go.Proofs.Qxb6602634aDoor
