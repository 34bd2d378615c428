/-
  THE WALKS OF hexDigit AND spiHex, AND THE LAW FnSPIStringIsSixteenLowerHexDigits.
-/
import Derived.Test.Qxb6604615aFmtSpi
namespace Go.Proofs.Qxb6604615aFmt
open Go.RowKit Go.Extern.Stop Go.Stop Go.Extern Go.Kit

theorem digit_low : ∀ d : Fin 16, d.val < 10 → ((FmtText.digit false d.val).toNat : Int) = 48 + d.val := by decide +kernel
theorem digit_high : ∀ d : Fin 16, 10 ≤ d.val → ((FmtText.digit false d.val).toNat : Int) = 97 + d.val - 10 := by decide +kernel

theorem ret_int {k : IntKind} {a b : Int} (h : a = b) : Ending.returned (.int k a) = .returned (.int k b) := by rw [h]

set_option maxHeartbeats 400000 in
theorem hex_digit (d : Nat) (hd : d < 16) (w : World) :
    Calls Tryf.prog 12 #[.int .u8 (d : Int)] w fun e w' => e = .returned (.int .u8 ((FmtText.digit false d).toNat : Int)) ∧ w' = w := by
  have h1 := digit_low ⟨d, hd⟩
  have h2 := digit_high ⟨d, hd⟩
  simp only at h1 h2
  have H1 : Hid (d < 10 → ((FmtText.digit false d).toNat : Int) = 48 + d) := h1
  have H2 : Hid (10 ≤ d → ((FmtText.digit false d).toNat : Int) = 97 + d - 10) := h2
  clear h1 h2
  by_cases h : d < 10
  · go_enter Tryf.func12, Tryf.ntmps12
    go_wp2
    go_ret
    exact ⟨ret_int (H1.out h).symm, rfl⟩
  · go_enter Tryf.func12, Tryf.ntmps12
    go_wp2
    go_ret
    exact ⟨ret_int (H2.out (by omega)).symm, rfl⟩

theorem hex_digit_at (x : Int) (d : Nat) (hx : x = (d : Int)) (hd : d < 16) (w : World) :
    Calls Tryf.prog 12 #[.int .u8 x] w fun e w' => e = .returned (.int .u8 ((FmtText.digit false d).toNat : Int)) ∧ w' = w := by
  rw [hx]; exact hex_digit d hd w

theorem and_digit (n q : Nat) (hn : n < 16 ^ 16) : bits .and .u64 ((n : Int) / 16 ^ q) 15 % 256 = ((n / 16 ^ q % 16 : Nat) : Int) := by
  have e : (n : Int) / 16 ^ q = ((n / 16 ^ q : Nat) : Int) := by simp
  have hm : n / 16 ^ q < 16 ^ 16 := Nat.lt_of_le_of_lt (Nat.div_le_self _ _) hn
  have e2 := bits_and_u64_nat (n / 16 ^ q) 15 (by omega) (by omega)
  have e3 := Nat.and_two_pow_sub_one_eq_mod (n / 16 ^ q) 4
  rw [e]
  rw [show ((15 : Int)) = ((15 : Nat) : Int) from rfl, e2, show (15 : Nat) = 2 ^ 4 - 1 from rfl, e3]
  omega

/-- What lies in cell j when m rounds are still to come. -/
def cellAt (n m j : Nat) : Int := if m ≤ j then ((FmtText.digit false (n / 16 ^ (15 - j) % 16)).toNat : Int) else 0

theorem cellAt_hit (n p j : Nat) (h : j ≠ p) : cellAt n p j = cellAt n (p + 1) j := by
  unfold cellAt
  by_cases h1 : p + 1 ≤ j
  · rw [if_pos h1, if_pos (by omega)]
  · rw [if_neg h1, if_neg (by omega)]

theorem shr_step (n p : Nat) (hp : p < 16) : (n : Int) / 16 ^ (15 - p) / 16 = ((n / 16 ^ (16 - p) : Nat) : Int) := by
  have e2 : 16 - p = 15 - p + 1 := by omega
  have e : (n : Int) / 16 ^ (15 - p) = ((n / 16 ^ (15 - p) : Nat) : Int) := by simp
  rw [e, e2, Nat.pow_succ, ← Nat.div_div_eq_div_mul]
  omega

theorem cells_hex {wr : World} {b : Nat} (n : Nat) (hcell : ∀ j, j < 16 → wr.cell? ⟨b, j, none⟩ = some (.int .u8 (cellAt n 0 j))) :
    ∀ i, i < 16 → wr.cell? ⟨b, 0 + i, none⟩ = some (.int .u8 (((hexN 16 n).map fun c => (c.toNat : Int)).getD i 0)) := by
  intro i hi
  rw [Nat.zero_add, hcell i hi, cellAt, if_pos (Nat.zero_le _)]
  have h : i < ((hexN 16 n).map fun c => (c.toNat : Int)).length := by simp [hexN_length]; exact hi
  rw [List.getD_eq_getElem?_getD, List.getElem?_eq_getElem h, List.getElem_map, hexN_getElem i n hi]
  rfl

theorem str_hex (n : Nat) : (strOfNums ((hexN 16 n).map fun c => (c.toNat : Int))).data.toList = hexN 16 n := by
  rw [strOfNums_data, List.map_map]
  have e : ((fun n : Int => UInt8.ofNat n.toNat) ∘ fun c : UInt8 => (c.toNat : Int)) = id := by
    funext c
    simp
  rw [e, List.map_id]

set_option maxHeartbeats 400000 in
theorem spi_hex (n : Nat) (hn : n < 16 ^ 16) (w : World) :
    Calls Tryf.prog 7 #[.int .u64 (n : Int)] w fun e w' => ∃ t : ByteArray, e = .returned (.string t) ∧ t.data.toList = hexN 16 n ∧ Below w.heap.size w w' := by
  go_enter Tryf.func7, Tryf.ntmps7
  go_wp2
  go_loopw [0, 4] (fun v i wr => ∃ m : Nat, m ≤ 16 ∧ v = .int .u64 ((n / 16 ^ (16 - m) : Nat) : Int) ∧ i = .int .i64 ((m : Int) - 1) ∧ (∀ j, j < 16 → wr.cell? ⟨w.heap.size, j, none⟩ = some (.int .u8 (cellAt n m j))) ∧
      (∀ j, j < 16 → wr.frozen? ⟨w.heap.size, j, none⟩ = false) ∧ Below w.heap.size w wr) (fun _ i _ => (intOf i + 1).toNat)
  case atStart =>
    refine ⟨16, by omega, by simp, by rfl, ?_, ?_, ?_⟩
    · intro j hj
      rw [cellAt, if_neg (by omega), World.cell?_alloc_new]
      match j, hj with
      | 0, _ | 1, _ | 2, _ | 3, _ | 4, _ | 5, _ | 6, _ | 7, _ | 8, _ | 9, _ | 10, _ | 11, _ | 12, _ | 13, _ | 14, _ | 15, _ => rfl
      | n + 16, h => exact absurd h (by omega)
    · intro j hj
      exact World.frozen?_alloc_new ..
    · exact (Below.refl _ w).alloc (Nat.le_refl _) _
  case round =>
    obtain ⟨m, hm, rfl, rfl, hcell, hfz, hB⟩ := hrel
    cases m with
    | zero =>
      have hlen : ((hexN 16 n).map fun c => (c.toNat : Int)).length = 16 := by simp [hexN_length]
      have hconv := run_convert_bytes_arg (P := Tryf.prog) wr 39 5 Tryf.underlying39 Tryf.underlying5 w.heap.size 0 16 16 _ hlen (cells_hex n hcell) 9 Tryf.underlying9
      go_wp2
      go_ret
      exact ⟨_, rfl, str_hex n, hB⟩
    | succ p =>
      have e1 : ((p + 1 : Nat) : Int) - 1 = (p : Int) := by omega
      have e2 : 16 - (p + 1) = 15 - p := by omega
      have hp : p < 16 := by omega
      have hc := hcell p hp
      have hf := hfz p hp
      rw [e1, e2]
      clear e1 e2
      go_wp2_with fail
      refine (hex_digit_at _ (n / 16 ^ (15 - p) % 16) (and_digit n (15 - p) hn) (Nat.mod_lt _ (by omega)) _).mono ?_
      rintro e w1 ⟨rfl, rfl⟩
      go_wp2
      go_roundw
      case rel =>
        refine ⟨p, by omega, congrArg (Value.int .u64) (shr_step n p hp), rfl, ?_, ?_, hB.setCell (Nat.le_refl _) _⟩
        · intro j hj
          by_cases h : j = p
          · subst h
            rw [World.cell?_setCell_same _ _ _ hc, cellAt, if_pos (Nat.le_refl _)]
          · rw [World.cell?_setCell_other _ _ _ _ (by intro e; cases e; exact h rfl), hcell j hj, cellAt_hit n p j h]
        · intro j hj
          rw [World.frozen?_setCell]
          exact hfz j hj
      case measure => simp [intOf]

set_option maxHeartbeats 400000 in
theorem law_six (F : Interp) (a : Int) (w : World) (hF : F.told.answers w.tape) (wa : (Lit.int .u64 a).wf = true) :
    Calls Tryf.prog 3 #[.int .u64 a] w fun e w' => e = .returned (.bool true) ∧ Below w.heap.size w w' := by
  have ba := FmtText.int_bounds wa
  simp [IntKind.min, IntKind.max, IntKind.signed, IntKind.bits] at ba
  obtain ⟨n, rfl⟩ : ∃ n : Nat, a = (n : Int) := ⟨a.toNat, by omega⟩
  go_enter Tryf.func3, Tryf.ntmps3
  go_wp2_with fail
  refine (spi_told F n _ hF wa).mono ?_
  rintro e w1 ⟨ta, rfl, hta, hb1⟩
  have HTA : Hid (ta.data.toList = hexN 16 n) := hta
  clear hta
  go_wp2_with fail
  refine (spi_hex n (by omega) _).mono ?_
  rintro e w2 ⟨tb, rfl, htb, hb2⟩
  have ht : ta = tb := ByteArray.ext (Array.toList_inj.1 (HTA.out.trans htb.symm))
  subst ht
  clear htb
  go_wp2
  go_ret
  exact ⟨by simp, hb1.trans (hb2.mono hb1.size)⟩
end Go.Proofs.Qxb6604615aFmt
