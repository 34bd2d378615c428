/-
  THE WALK OF (USD).appendText ONTO A SLICE WITHOUT ROOM.
-/
import Derived.Test.Qxb6602634aDoorUint
import Derived.Test.Qxb6602634aDoorText
namespace Go.Proofs.Qxb6602634aDoor
open Go.RowKit Go.Lib

theorem owns_below {w w' : World} {b e n : Nat} {v : Value} {xs : List Value} (h : w.ownsRow b e 1 v n xs) (hb : Below w.heap.size w w') : w'.ownsRow b e 1 v n xs := by
  refine ⟨h.1, ?_⟩
  rcases h.2 with h1 | ⟨g, c, cur, h1, h2, h3, h4⟩
  · exact .inl h1
  · have hg : g < w.heap.size := by
      rcases Nat.lt_or_ge g w.heap.size with hlt | hge
      · exact hlt
      · rw [Array.getElem?_eq_none hge] at h3; cases h3
    exact .inr ⟨g, c, cur, h1, h2, (hb.block g hg).trans h3, h4⟩

theorem frac_cells (r : Nat) {wr : World} {b : Nat} (h : ∀ j, j < 10 → wr.cell? ⟨b, j, none⟩ = some (.int .u8 (fcell r 0 j))) :
    ∀ j u, (Lib.byteCells (46 :: frac9 r))[j]? = some u → wr.cell? ((⟨b, 0, none⟩ : Addr).add j) = some u := by
  intro j u hu
  have hj : j < 10 := by
    have := (List.getElem?_eq_some_iff.1 hu).1
    rw [Lib.byteCells_length, List.length_cons, frac9_length] at this
    exact this
  rw [Lib.add_plain, Nat.zero_add, h j hj]
  rw [Lib.byteCells, List.getElem?_map] at hu
  cases hx : (46 :: frac9 r)[j]? with
  | none => rw [hx] at hu; cases hu
  | some x =>
    rw [hx] at hu
    cases hu
    rw [(fcell_done r j hj).2 x hx]

theorem frac_next (m p : Nat) (hp : p < 9) : IntKind.u64.wrap (((m : Int) % 1000000000 / 10 ^ (8 - p)).tdiv 10) = ((m % 1000000000 / 10 ^ (9 - p) : Nat) : Int) := by
  have e : (m : Int) % 1000000000 / 10 ^ (8 - p) = ((m % 1000000000 / 10 ^ (8 - p) : Nat) : Int) := by simp
  have h1 := Nat.div_le_self (m % 1000000000) (10 ^ (8 - p))
  have e2 : 9 - p = 8 - p + 1 := by omega
  rw [e, e2, Nat.pow_succ, ← Nat.div_div_eq_div_mul]
  generalize m % 1000000000 / 10 ^ (8 - p) = a at *
  rw [IntKind.wrap_u64, Int.tdiv_eq_ediv_of_nonneg (by omega)]
  omega
theorem frac_dig (m p : Nat) (hp : p < 9) : IntKind.u64.wrap (48 + ((m : Int) % 1000000000 / 10 ^ (8 - p)).tmod 10) % 256 = fcell (m % 1000000000) p (p + 1) := by
  have e : (m : Int) % 1000000000 / 10 ^ (8 - p) = ((m % 1000000000 / 10 ^ (8 - p) : Nat) : Int) := by simp
  rw [fcell_new _ p hp, e]
  generalize m % 1000000000 / 10 ^ (8 - p) = a
  rw [IntKind.wrap_u64, Int.tmod_eq_emod_of_nonneg (by omega)]
  omega

theorem fin_neg {w : World} {b : Nat} {v : Value} (n m : Nat) (xs : List Value)
    (h : w.ownsRow b 5 1 v (n + 1 + (Lib.decDigits (m / 1000000000)).length + 10) (xs ++ (Value.int .u8 45 :: (Lib.byteCells (Lib.decDigits (m / 1000000000)) ++ Lib.byteCells (46 :: frac9 (m % 1000000000)))))) :
    w.ownsRow b 5 1 v (n + (45 :: usd m).length) (xs ++ Lib.byteCells (45 :: usd m)) := by
  have e1 : n + (45 :: usd m).length = n + 1 + (Lib.decDigits (m / 1000000000)).length + 10 := by rw [usd, List.length_cons, List.length_append, List.length_cons, frac9_length]; omega
  have e2 : Lib.byteCells (45 :: usd m) = Value.int .u8 45 :: Lib.byteCells (usd m) := rfl
  rw [e1, e2, usd, Lib.byteCells_append]
  exact h
theorem fin_pos {w : World} {b : Nat} {v : Value} (n m : Nat) (xs : List Value)
    (h : w.ownsRow b 5 1 v (n + (Lib.decDigits (m / 1000000000)).length + 10) (xs ++ (Lib.byteCells (Lib.decDigits (m / 1000000000)) ++ Lib.byteCells (46 :: frac9 (m % 1000000000))))) :
    w.ownsRow b 5 1 v (n + (usd m).length) (xs ++ Lib.byteCells (usd m)) := by
  have e1 : (usd m).length = (Lib.decDigits (m / 1000000000)).length + 10 := by rw [usd, List.length_append, List.length_cons, frac9_length]
  rw [e1, usd, Lib.byteCells_append, ← Nat.add_assoc]
  exact h

set_option maxHeartbeats 1000000 in
theorem app_pos (B n m : Nat) (hm : m ≤ 9223372036854775807) (sv : Value) (xs : List Value) (w : World) (hown : w.ownsRow B 5 1 sv n xs) (hfull : NoRoom sv n) (hBw : B ≤ w.heap.size) (hlim : n + 64 ≤ 140737488355328)
    (htab : Lib.TabIs Tryd.prog w Tryd.pow10Name .u64 Lib.pow10Tab) :
    Calls Tryd.prog 11 #[.int .i64 (m : Int), sv] w fun e w' => ∃ v', e = .returned v' ∧ w'.ownsRow w.heap.size 5 1 v' (n + (usd m).length) (xs ++ Lib.byteCells (usd m)) ∧ Below w.heap.size w w' := by
  obtain ⟨i0, hi, hz0, hz1, hz2⟩ := info_parts info5
  have hq : m / 1000000000 < 18446744073709551616 := by omega
  obtain ⟨hl1, hl2⟩ := dec_len (m / 1000000000) hq
  have c := su_full B n (m / 1000000000) hq sv xs w hown hfull hBw (by omega) htab
  clear hown hfull htab
  go_enter Tryd.func11, Tryd.ntmps11
  go_wp2_with fail
  refine c.mono ?_
  rintro e w1 ⟨v1, rfl, hown1, hb1⟩
  have HO : Hid (w1.ownsRow w.heap.size 5 1 v1 (n + (Lib.decDigits (m / 1000000000)).length) (xs ++ Lib.byteCells (Lib.decDigits (m / 1000000000)))) := hown1
  clear hown1
  go_wp2
  go_loopw [7, 8] (fun x i wr => ∃ k : Nat, k ≤ 9 ∧ x = .int .u64 ((m % 1000000000 / 10 ^ (9 - k) : Nat) : Int) ∧ i = .int .i64 (k : Int) ∧ (∀ j, j < 10 → wr.cell? ⟨w1.heap.size, j, none⟩ = some (.int .u8 (fcell (m % 1000000000) k j))) ∧
      (∀ j, j < 10 → wr.frozen? ⟨w1.heap.size, j, none⟩ = false) ∧ Below w1.heap.size w1 wr ∧ w1.heap.size < wr.heap.size) (fun _ i _ => (RowKit.intOf i).toNat)
  case atStart =>
    refine ⟨9, by omega, by simp, by rfl, ?_, ?_, (Below.refl _ w1).alloc (Nat.le_refl _) _, by simp⟩
    · intro j hj
      rw [World.cell?_alloc_new]
      match j, hj with
      | 0, _ | 1, _ | 2, _ | 3, _ | 4, _ | 5, _ | 6, _ | 7, _ | 8, _ | 9, _ => rfl
      | n + 10, h => exact absurd h (by omega)
    · intro j hj
      exact World.frozen?_alloc_new ..
  case round =>
    obtain ⟨k, hk, rfl, rfl, hcell, hfz, hB, hsz⟩ := hrel
    cases k with
    | zero =>
      have hownr : wr.ownsRow w.heap.size 5 1 v1 (n + (Lib.decDigits (m / 1000000000)).length) (xs ++ Lib.byteCells (Lib.decDigits (m / 1000000000))) := owns_below HO.out hB
      go_wp2_with (at_builtin; refine wpList_append_own _ rfl _ _ 22 rfl w.heap.size 5 i0 (.int .u8 0) 1 1 Tryd.underlying22 hi hz0 hz1 hz2 rfl (by decide) _ _ _ rfl hownr ⟨w1.heap.size, 0, none⟩ 10 10 (Lib.byteCells (46 :: frac9 (m % 1000000000))) rfl ?c0 ?c1 ?c2 ?c3 ?c4 ?c5 ?_)
      case c0 => rw [Lib.byteCells_length, List.length_cons, frac9_length]
      case c1 => exact frac_cells _ hcell
      case c2 => intro u' hu'; simp only [Lib.byteCells, List.mem_map] at hu'; obtain ⟨b, _, rfl⟩ := hu'; rfl
      case c3 => unfold maxLen; omega
      case c4 => omega
      case c5 => have := hb1.size; have := hB.size; omega
      intro v2 w3 hown' hgrow _
      have hb3 : Below w.heap.size w w3 := (hb1.trans (hB.mono hb1.size)).grown hgrow (by have := hb1.size; have := hB.size; omega) (fun q hq => (hownr.lt q hq).1)
      clear hgrow hownr hcell hfz
      have HO2 : Hid (w3.ownsRow w.heap.size 5 1 v2 _ _) := hown'
      clear hown'
      go_wp2
      go_ret
      exact ⟨v2, rfl, fin_pos n m xs HO2.out, hb3⟩
    | succ p =>
      have hp : p < 9 := by omega
      have hc := hcell (p + 1) (by omega)
      have hf := hfz (p + 1) (by omega)
      have HC : Hid (∀ j, j < 10 → wr.cell? ⟨w1.heap.size, j, none⟩ = some (.int .u8 (fcell (m % 1000000000) (p + 1) j))) := hcell
      have HF : Hid (∀ j, j < 10 → wr.frozen? ⟨w1.heap.size, j, none⟩ = false) := hfz
      clear hcell hfz
      go_wp2
      go_roundw
      case rel =>
        refine ⟨p, by omega, congrArg (Value.int .u64) (frac_next m p hp), rfl, ?_, ?_, hB.setCell (Nat.le_refl _) _, by simpa using hsz⟩
        · intro j hj
          by_cases h : j = p + 1
          · subst h
            rw [World.cell?_setCell_same _ _ _ hc, frac_dig m p hp]
          · rw [World.cell?_setCell_other _ _ _ _ (by intro e; cases e; exact h rfl), HC.out j hj, fcell_keep _ p j h]
        · intro j hj
          rw [World.frozen?_setCell]
          exact HF.out j hj
      case measure => simp [RowKit.intOf]

set_option maxHeartbeats 1000000 in
theorem app_neg (B n m : Nat) (hm1 : 1 ≤ m) (hm : m ≤ 9223372036854775808) (sv : Value) (xs : List Value) (w : World) (hown : w.ownsRow B 5 1 sv n xs) (hfull : NoRoom sv n) (hBw : B ≤ w.heap.size) (hlim : n + 64 ≤ 140737488355328)
    (htab : Lib.TabIs Tryd.prog w Tryd.pow10Name .u64 Lib.pow10Tab) :
    Calls Tryd.prog 11 #[.int .i64 (-(m : Int)), sv] w fun e w' => ∃ v', e = .returned v' ∧ w'.ownsRow w.heap.size 5 1 v' (n + (45 :: usd m).length) (xs ++ Lib.byteCells (45 :: usd m)) ∧ Below w.heap.size w w' := by
  obtain ⟨i0, hi, hz0, hz1, hz2⟩ := info_parts info5
  have hq : m / 1000000000 < 18446744073709551616 := by omega
  obtain ⟨hl1, hl2⟩ := dec_len (m / 1000000000) hq
  have hwr : IntKind.u64.wrap (-IntKind.u64.wrap (-(m : Int))) = (m : Int) := by rw [IntKind.wrap_u64, IntKind.wrap_u64]; omega
  have hneg : -(m : Int) < 0 := by omega
  go_enter Tryd.func11, Tryd.ntmps11
  go_wp2_with (at_builtin; refine wpList_append_full _ rfl _ _ 22 rfl B 5 i0 Tryd.underlying22 hi hz0 hz1 hz2 _ _ _ rfl (hown.alloc _) hfull ⟨w.heap.size, 0, none⟩ 1 1 [Value.int .u8 45] rfl rfl ?a1 ?a2 (by omega) ?a3 ?a4 ?a5 ?_)
  case a1 => intro j u' hj; match j, hj with | 0, hj => simp at hj; subst hj; simp [Addr.add]
  case a2 => intro u' hu'; simp at hu'; subst hu'; rfl
  case a3 => unfold maxLen; omega
  case a4 => omega
  case a5 => simp; omega
  intro v0 w0 hown0 hb0
  have hb00 : Below w.heap.size w w0 := ((Below.refl _ w).alloc (Nat.le_refl _) _).trans (hb0.mono (by simp))
  have htab0 : Lib.TabIs Tryd.prog w0 Tryd.pow10Name .u64 Lib.pow10Tab := (tabBelow_of_tabIs htab) w0 hb00
  have c := su_own w.heap.size (n + 1) (m / 1000000000) hq v0 (xs ++ [Value.int .u8 45]) w0 (owns_le hown0 (by simp)) hb00.size (by omega) htab0
  clear hown hfull htab hown0 hb0 htab0
  go_wp2_with fail
  refine c.mono ?_
  rintro e w1 ⟨v1, rfl, hown1, hb01⟩
  have hb1 : Below w.heap.size w w1 := hb00.trans hb01
  have HO : Hid (w1.ownsRow w.heap.size 5 1 v1 (n + 1 + (Lib.decDigits (m / 1000000000)).length) (xs ++ [Value.int .u8 45] ++ Lib.byteCells (Lib.decDigits (m / 1000000000)))) := hown1
  clear hown1
  go_wp2
  go_loopw [7, 8] (fun x i wr => ∃ k : Nat, k ≤ 9 ∧ x = .int .u64 ((m % 1000000000 / 10 ^ (9 - k) : Nat) : Int) ∧ i = .int .i64 (k : Int) ∧ (∀ j, j < 10 → wr.cell? ⟨w1.heap.size, j, none⟩ = some (.int .u8 (fcell (m % 1000000000) k j))) ∧
      (∀ j, j < 10 → wr.frozen? ⟨w1.heap.size, j, none⟩ = false) ∧ Below w1.heap.size w1 wr ∧ w1.heap.size < wr.heap.size) (fun _ i _ => (RowKit.intOf i).toNat)
  case atStart =>
    refine ⟨9, by omega, by simp, by rfl, ?_, ?_, (Below.refl _ w1).alloc (Nat.le_refl _) _, by simp⟩
    · intro j hj
      rw [World.cell?_alloc_new]
      match j, hj with
      | 0, _ | 1, _ | 2, _ | 3, _ | 4, _ | 5, _ | 6, _ | 7, _ | 8, _ | 9, _ => rfl
      | n + 10, h => exact absurd h (by omega)
    · intro j hj
      exact World.frozen?_alloc_new ..
  case round =>
    obtain ⟨k, hk, rfl, rfl, hcell, hfz, hB, hsz⟩ := hrel
    cases k with
    | zero =>
      have hownr : wr.ownsRow w.heap.size 5 1 v1 (n + 1 + (Lib.decDigits (m / 1000000000)).length) (xs ++ [Value.int .u8 45] ++ Lib.byteCells (Lib.decDigits (m / 1000000000))) := owns_below HO.out hB
      go_wp2_with (at_builtin; refine wpList_append_own _ rfl _ _ 22 rfl w.heap.size 5 i0 (.int .u8 0) 1 1 Tryd.underlying22 hi hz0 hz1 hz2 rfl (by decide) _ _ _ rfl hownr ⟨w1.heap.size, 0, none⟩ 10 10 (Lib.byteCells (46 :: frac9 (m % 1000000000))) rfl ?c0 ?c1 ?c2 ?c3 ?c4 ?c5 ?_)
      case c0 => rw [Lib.byteCells_length, List.length_cons, frac9_length]
      case c1 => exact frac_cells _ hcell
      case c2 => intro u' hu'; simp only [Lib.byteCells, List.mem_map] at hu'; obtain ⟨b, _, rfl⟩ := hu'; rfl
      case c3 => unfold maxLen; omega
      case c4 => omega
      case c5 => have := hb1.size; have := hB.size; omega
      intro v2 w3 hown' hgrow _
      have hb3 : Below w.heap.size w w3 := (hb1.trans (hB.mono hb1.size)).grown hgrow (by have := hb1.size; have := hB.size; omega) (fun q hq => (hownr.lt q hq).1)
      clear hgrow hownr hcell hfz
      have HO2 : Hid (w3.ownsRow w.heap.size 5 1 v2 _ _) := hown'
      clear hown'
      go_wp2
      go_ret
      exact ⟨v2, rfl, fin_neg n m xs HO2.out, hb3⟩
    | succ p =>
      have hp : p < 9 := by omega
      have hc := hcell (p + 1) (by omega)
      have hf := hfz (p + 1) (by omega)
      have HC : Hid (∀ j, j < 10 → wr.cell? ⟨w1.heap.size, j, none⟩ = some (.int .u8 (fcell (m % 1000000000) (p + 1) j))) := hcell
      have HF : Hid (∀ j, j < 10 → wr.frozen? ⟨w1.heap.size, j, none⟩ = false) := hfz
      clear hcell hfz
      go_wp2
      go_roundw
      case rel =>
        refine ⟨p, by omega, congrArg (Value.int .u64) (frac_next m p hp), rfl, ?_, ?_, hB.setCell (Nat.le_refl _) _, by simpa using hsz⟩
        · intro j hj
          by_cases h : j = p + 1
          · subst h
            rw [World.cell?_setCell_same _ _ _ hc, frac_dig m p hp]
          · rw [World.cell?_setCell_other _ _ _ _ (by intro e; cases e; exact h rfl), HC.out j hj, fcell_keep _ p j h]
        · intro j hj
          rw [World.frozen?_setCell]
          exact HF.out j hj
      case measure => simp [RowKit.intOf]

end Go.Proofs.Qxb6602634aDoor
