/-
  THE WALK OF b1USDText, the laws' own model of the text.
-/
import Derived.Test.Qxb6602634aDoorClone
import Derived.Test.Qxb6602634aDoorPart
namespace Go.Proofs.Qxb6602634aDoor
open Go.RowKit Go.Lib

/-- What lies in cell j of the array of digits when k of them are written. -/
def dcell (M k j : Nat) : Int := if j < k then ((Lib.dg M j).toNat : Int) else 0
theorem dcell_keep (M k j : Nat) (h : j ≠ k) : dcell M (k + 1) j = dcell M k j := by
  unfold dcell
  by_cases h1 : j < k
  · rw [if_pos h1, if_pos (by omega)]
  · rw [if_neg h1, if_neg (by omega)]
theorem mag_digit (M k : Nat) : IntKind.u64.wrap (48 + ((M : Int) / 10 ^ k).tmod 10) % 256 = ((Lib.dg M k).toNat : Int) := by
  have e : (M : Int) / 10 ^ k = ((M / 10 ^ k : Nat) : Int) := by simp
  rw [dg_int, e]
  generalize M / 10 ^ k = a
  rw [IntKind.wrap_u64, Int.tmod_eq_emod_of_nonneg (by omega)]
  omega
theorem mag_next (M k : Nat) (hM : M < 18446744073709551616) : IntKind.u64.wrap (((M : Int) / 10 ^ k).tdiv 10) = ((M / 10 ^ (k + 1) : Nat) : Int) := by
  have e : (M : Int) / 10 ^ k = ((M / 10 ^ k : Nat) : Int) := by simp
  have h1 := Nat.div_le_self M (10 ^ k)
  rw [e, Nat.pow_succ, ← Nat.div_div_eq_div_mul]
  generalize M / 10 ^ k = a at *
  rw [IntKind.wrap_u64, Int.tdiv_eq_ediv_of_nonneg (by omega)]
  omega

theorem mag_next_int (M k : Nat) (hM : M < 18446744073709551616) : IntKind.u64.wrap (((M : Int) / 10 ^ k).tdiv 10) = (M : Int) / 10 ^ (k + 1) := by
  rw [mag_next M k hM]
  simp
theorem mag_test_done (M k : Nat) (hM : M < 18446744073709551616) (h : M < 10 ^ (k + 1)) : (IntKind.u64.wrap (((M : Int) / 10 ^ k).tdiv 10) == 0) = true := by
  rw [mag_next M k hM, Nat.div_eq_of_lt h]
  rfl
theorem mag_test_more (M k : Nat) (hM : M < 18446744073709551616) (h : ¬ M < 10 ^ (k + 1)) : (IntKind.u64.wrap (((M : Int) / 10 ^ k).tdiv 10) == 0) = false := by
  have h1 := Nat.div_pos (show 10 ^ (k + 1) ≤ M by omega) (Nat.pow_pos (by omega))
  rw [mag_next M k hM, beq_eq_false_iff_ne]
  omega
theorem start_cells (M : Nat) (w : World) : ∀ j, j < 20 → (w.alloc (.cells #[.int .u8 0, .int .u8 0, .int .u8 0, .int .u8 0, .int .u8 0, .int .u8 0, .int .u8 0, .int .u8 0, .int .u8 0, .int .u8 0, .int .u8 0, .int .u8 0, .int .u8 0, .int .u8 0, .int .u8 0, .int .u8 0, .int .u8 0, .int .u8 0, .int .u8 0, .int .u8 0] 31)).cell? ⟨w.heap.size, j, none⟩ = some (.int .u8 (dcell M 0 j)) := by
  intro j hj
  rw [World.cell?_alloc_new, dcell, if_neg (by omega)]
  match j, hj with
  | 0, _ | 1, _ | 2, _ | 3, _ | 4, _ | 5, _ | 6, _ | 7, _ | 8, _ | 9, _ | 10, _ | 11, _ | 12, _ | 13, _ | 14, _ | 15, _ | 16, _ | 17, _ | 18, _ | 19, _ => rfl
  | n + 20, h => exact absurd h (by omega)
/-- One more digit is written. -/
theorem put_cell {wr : World} {b M k : Nat} {x : Int} (hx : x = ((Lib.dg M k).toNat : Int)) (hk : k < 20) (h : ∀ j, j < 20 → wr.cell? ⟨b, j, none⟩ = some (.int .u8 (dcell M k j))) :
    ∀ j, j < 20 → (wr.setCell ⟨b, k, none⟩ (.int .u8 x)).cell? ⟨b, j, none⟩ = some (.int .u8 (dcell M (k + 1) j)) := by
  intro j hj
  by_cases e : j = k
  · subst e
    rw [World.cell?_setCell_same _ _ _ (h j hj), dcell, if_pos (by omega), hx]
  · rw [World.cell?_setCell_other _ _ _ _ (by intro e2; cases e2; exact e rfl), h j hj, dcell_keep M k j e]
theorem put_frozen {wr : World} {b k : Nat} {x : Value} (h : ∀ j, j < 20 → wr.frozen? ⟨b, j, none⟩ = false) : ∀ j, j < 20 → (wr.setCell ⟨b, k, none⟩ x).frozen? ⟨b, j, none⟩ = false := by
  intro j hj
  rw [World.frozen?_setCell]
  exact h j hj
theorem pow_small (M k : Nat) (hM : M < 18446744073709551616) (h : 10 ^ k ≤ M) : k ≤ 19 := by
  rcases Nat.lt_or_ge 19 k with h1 | h1
  · have h2 : 10 ^ 20 ≤ 10 ^ k := Nat.pow_le_pow_right (by omega) h1
    omega
  · exact h1
def zero22 : Array Value := Array.replicate 22 (.int .u8 0)
theorem make22 (w : World) : (Instr.makeSlice 22 (.int .i64 0) (.int .i64 22)).run Tryd.prog w = .ok (.slice (some ⟨w.heap.size, 0, none⟩) 0 22) (w.alloc (.cells zero22 5)) := by kernel_rfl

theorem own_snoc {w : World} {b : Nat} {v : Value} {x : Int} (L : List UInt8) (c : UInt8) (hx : x = (c.toNat : Int)) (h : w.ownsRow b 5 1 v (L.length + 1) (Lib.byteCells L ++ [Value.int .u8 x])) :
    w.ownsRow b 5 1 v (L ++ [c]).length (Lib.byteCells (L ++ [c])) := by
  rw [List.length_append, Lib.byteCells_append]
  subst hx
  exact h
theorem one_cell (w : World) (x : Value) (hx : x.oneCell' = true) : (∀ j u, ([x] : List Value)[j]? = some u → (w.alloc (.cells #[x] 5)).cell? ((⟨w.heap.size, 0, none⟩ : Addr).add j) = some u) ∧ ∀ u ∈ ([x] : List Value), u.oneCell' = true := by
  refine ⟨?_, ?_⟩
  · intro j u hj
    match j, hj with
    | 0, hj => simp at hj; subst hj; simp [Addr.add]
  · intro u hu
    simp at hu
    subst hu
    exact hx
theorem dcell_in (M N p : Nat) (h : p < N) : dcell M N p = ((Lib.dg M p).toNat : Int) := by rw [dcell, if_pos h]
/-- What an append onto the call's own text leaves. -/
theorem step_kept {wr w1 : World} {B n : Nat} {v : Value} {xs : List Value} {o : Obj} (hown : wr.ownsRow B 5 1 v n xs) (hs : B ≤ wr.heap.size) (hg : (wr.alloc o).grownBy w1 v.ownBlock) : Below B wr w1 :=
  ((Below.refl B wr).alloc hs o).grown hg (by simp; omega) (fun k hk => ((hown.alloc o).lt k hk).1)

/-- What holds at the head of the loop that lays the text. -/
def Rel3 (w : World) (sg : List UInt8) (M N : Nat) (v i : Value) (wx : World) : Prop :=
  ∃ q : Nat, q ≤ N ∧ i = .int .i64 ((q : Int) - 1) ∧ wx.ownsRow (w.heap.size + 1) 5 1 v (sg ++ part M N q).length (Lib.byteCells (sg ++ part M N q)) ∧
    (∀ j, j < 20 → wx.cell? ⟨w.heap.size, j, none⟩ = some (.int .u8 (dcell M N j))) ∧ Below w.heap.size w wx ∧ w.heap.size + 1 ≤ wx.heap.size

theorem rel3_step {w wr w1 : World} {sg : List UInt8} {M N p : Nat} {v1 : Value} {L : List UInt8} (hL : L = sg ++ part M N (p + 1)) (hp : p + 1 ≤ N) (h8 : p ≠ 8)
    (hc : ∀ j, j < 20 → wr.cell? ⟨w.heap.size, j, none⟩ = some (.int .u8 (dcell M N j))) (hB : Below w.heap.size w wr) (hs : w.heap.size + 1 ≤ wr.heap.size) (hb1 : Below (w.heap.size + 1) wr w1)
    (ho : w1.ownsRow (w.heap.size + 1) 5 1 v1 (L.length + 1) (Lib.byteCells L ++ [.int .u8 ((Lib.dg M p).toNat : Int)])) :
    Rel3 w sg M N v1 (.int .i64 ((p : Int) - 1)) w1 := by
  subst hL
  refine ⟨p, by omega, rfl, ?_, fun j hj => (hb1.cell (p := ⟨w.heap.size, j, none⟩) (by simp)).trans (hc j hj), hB.trans (hb1.mono (by omega)), Nat.le_trans hs hb1.size⟩
  rw [part_step M N p hp h8, ← List.append_assoc]
  exact own_snoc _ _ rfl ho
theorem rel3_point {w wr w1 : World} {sg : List UInt8} {M N : Nat} {v1 : Value} {L : List UInt8} (hL : L = sg ++ part M N 9 ++ [46]) (hp : 9 ≤ N)
    (hc : ∀ j, j < 20 → wr.cell? ⟨w.heap.size, j, none⟩ = some (.int .u8 (dcell M N j))) (hB : Below w.heap.size w wr) (hs : w.heap.size + 1 ≤ wr.heap.size) (hb1 : Below (w.heap.size + 1) wr w1)
    (ho : w1.ownsRow (w.heap.size + 1) 5 1 v1 (L.length + 1) (Lib.byteCells L ++ [.int .u8 ((Lib.dg M 8).toNat : Int)])) :
    Rel3 w sg M N v1 (.int .i64 ((8 : Int) - 1)) w1 := by
  subst hL
  refine ⟨8, by omega, rfl, ?_, fun j hj => (hb1.cell (p := ⟨w.heap.size, j, none⟩) (by simp)).trans (hc j hj), hB.trans (hb1.mono (by omega)), Nat.le_trans hs hb1.size⟩
  rw [part_point M N, ← List.append_assoc, ← List.append_assoc]
  exact own_snoc _ _ rfl ho

theorem compl_neg (M : Nat) (h1 : 1 ≤ M) (h2 : M ≤ 9223372036854775808) : IntKind.u64.wrap (IntKind.u64.wrap (bits .xor .i64 (-1) (-(M : Int))) + 1) = (M : Int) := by
  have hb : (BitVec.ofInt 64 (-(M : Int))).toNat = 18446744073709551616 - M := by
    rw [BitVec.toNat_ofInt]
    omega
  have ha : BitVec.ofInt 64 (-1) = BitVec.allOnes 64 := by decide
  have e : bits .xor .i64 (-1) (-(M : Int)) = IntKind.i64.wrap ((BitVec.ofInt 64 (-1) ^^^ BitVec.ofInt 64 (-(M : Int))).toNat : Int) := rfl
  rw [e, ha, BitVec.allOnes_xor, BitVec.toNat_not, hb, IntKind.wrap_i64, IntKind.wrap_u64, IntKind.wrap_u64]
  omega

set_option maxHeartbeats 1000000 in
theorem usd_pos (M : Nat) (hM : M ≤ 9223372036854775807) (w : World) :
    Calls Tryd.prog 8 #[.int .i64 (M : Int)] w fun e w' => ∃ v', e = .returned v' ∧ w'.ownsRow w.heap.size 5 1 v' (([] : List UInt8) ++ usd M).length (Lib.byteCells (([] : List UInt8) ++ usd M)) ∧ Below w.heap.size w w' := by
  obtain ⟨i0, hi, hz0, hz1, hz2⟩ := info_parts info5
  go_enter Tryd.func8, Tryd.ntmps8
  go_wp2
  go_loopw [4, 6] (fun x i wr => ∃ k : Nat, k ≤ 19 ∧ (k = 0 ∨ 10 ^ k ≤ M) ∧ x = .int .u64 ((M : Int) / 10 ^ k) ∧ i = .int .i64 (k : Int) ∧ (∀ j, j < 20 → wr.cell? ⟨w.heap.size, j, none⟩ = some (.int .u8 (dcell M k j))) ∧
      (∀ j, j < 20 → wr.frozen? ⟨w.heap.size, j, none⟩ = false) ∧ Below w.heap.size w wr ∧ w.heap.size + 1 ≤ wr.heap.size) (fun _ i _ => 20 - (RowKit.intOf i).toNat)
  case atStart => exact ⟨0, by omega, Or.inl rfl, by simp, rfl, start_cells M w, fun j _ => World.frozen?_alloc_new .., (Below.refl _ w).alloc (Nat.le_refl _) _, by simp⟩
  case round =>
    obtain ⟨k, hk, hk0, rfl, rfl, hcell, hfz, hB, hsz⟩ := hrel
    have hc := hcell k (by omega)
    have hf := hfz k (by omega)
    have HC : Hid (∀ j, j < 20 → wr.cell? ⟨w.heap.size, j, none⟩ = some (.int .u8 (dcell M k j))) := hcell
    have HF : Hid (∀ j, j < 20 → wr.frozen? ⟨w.heap.size, j, none⟩ = false) := hfz
    have HK : Hid (k = 0 ∨ 10 ^ k ≤ M) := hk0
    clear hcell hfz hk0
    by_cases hlt : M < 10 ^ (k + 1)
    rotate_left
    · have ht := mag_test_more M k (by omega) hlt
      have h10 : 10 ^ (k + 1) ≤ M := by omega
      have hk1 := pow_small M (k + 1) (by omega) h10
      have H10 : Hid (10 ^ (k + 1) ≤ M) := h10
      clear hlt h10
      go_wp2
      go_roundw
      case rel => exact ⟨k + 1, hk1, Or.inr H10.out, congrArg (Value.int .u64) (mag_next_int M k (by omega)), by go_num, put_cell (mag_digit M k) (by omega) HC.out, put_frozen HF.out, hB.setCell (Nat.le_refl _) _, by simpa using hsz⟩
      case measure => simp [RowKit.intOf]; omega
    have ht := mag_test_done M k (by omega) hlt
    have HLT : Hid (M < 10 ^ (k + 1)) := hlt
    clear hlt
    go_wp2
    clear ht
    go_loopw [6] (fun i wy => ∃ q : Nat, 1 ≤ q ∧ q ≤ 20 ∧ Hid (M < 10 ^ q ∧ (q ≤ 10 ∨ 10 ^ (q - 1) ≤ M)) ∧ i = .int .i64 (q : Int) ∧ (∀ j, j < 20 → wy.cell? ⟨w.heap.size, j, none⟩ = some (.int .u8 (dcell M q j))) ∧
        (∀ j, j < 20 → wy.frozen? ⟨w.heap.size, j, none⟩ = false) ∧ Below w.heap.size w wy ∧ w.heap.size + 1 ≤ wy.heap.size) (fun i _ => 20 - (RowKit.intOf i).toNat)
    case atStart =>
      refine ⟨k + 1, by omega, by omega, ⟨HLT.out, ?_⟩, by go_num, put_cell (mag_digit M k) (by omega) HC.out, put_frozen HF.out, hB.setCell (Nat.le_refl _) _, by simpa using hsz⟩
      rcases HK.out with h | h
      · left; omega
      · right; exact h
    case round =>
      clear HC HF HK HLT hc hf hB hsz hk
      obtain ⟨N, hN1, hN20, HN, rfl, hcN, hfN, hBN, hsN⟩ := hrel
      have HCN : Hid (∀ j, j < 20 → wr.cell? ⟨w.heap.size, j, none⟩ = some (.int .u8 (dcell M N j))) := hcN
      have HFN : Hid (∀ j, j < 20 → wr.frozen? ⟨w.heap.size, j, none⟩ = false) := hfN
      clear hcN hfN
      by_cases hN10 : N < 10
      · have hc := HCN.out N (by omega)
        have hf := HFN.out N (by omega)
        go_wp2
        go_roundw
        case rel =>
          have h1 : M < 10 ^ (N + 1) := Nat.lt_of_lt_of_le HN.out.1 (Nat.pow_le_pow_right (by omega) (by omega))
          exact ⟨N + 1, by omega, by omega, ⟨h1, Or.inl (by omega)⟩, by go_num, put_cell (dg_zero M N HN.out.1).symm (by omega) HCN.out, put_frozen HFN.out, hBN.setCell (Nat.le_refl _) _, by simpa using hsN⟩
        case measure => simp [RowKit.intOf]; omega
      · have hmk := make22
        clear HFN
        go_wp2
        go_loopw [7, 8] (fun v i wx => Rel3 w ([] : List UInt8) M N v i wx) (fun _ i _ => (RowKit.intOf i + 1).toNat)
        case atStart =>
          refine ⟨N, Nat.le_refl _, rfl, ?_, ?_, ?_, ?_⟩
          · rw [part_start M N (by omega)]
            exact World.ownsRow_made wr zero22 22 hsN (by decide) rfl
          · intro j hj
            rw [World.cell?_alloc_lt _ _ _ (by show w.heap.size < wr.heap.size; omega)]
            exact HCN.out j hj
          · exact hBN.alloc (by omega) _
          · simp; omega

        case round =>
          clear HCN hBN hsN
          obtain ⟨q, hqN, rfl, hownq, hcq, hBq, hszq⟩ := hrel
          cases q with
          | zero =>
            have HO : Hid (wr.ownsRow (w.heap.size + 1) 5 1 u7 (([] : List UInt8) ++ part M N 0).length (Lib.byteCells (([] : List UInt8) ++ part M N 0))) := hownq
            clear hownq hcq
            go_wp2
            go_ret
            refine ⟨u7, rfl, ?_, hBq⟩
            have h := HO.out
            rw [part_end M N (by omega) HN.out.1 HN.out.2] at h
            exact owns_le h (by omega)
          | succ p =>
            have hlen := part_length M N (p + 1) hN20
            have hcp := hcq p (by omega)
            rw [dcell_in M N p (by omega)] at hcp
            have HCQ : Hid (∀ j, j < 20 → wr.cell? ⟨w.heap.size, j, none⟩ = some (.int .u8 (dcell M N j))) := hcq
            have hlen2 : (([] : List UInt8) ++ part M N (p + 1)).length ≤ 22 := by rw [List.length_append]; simp; omega
            obtain ⟨L, hL⟩ : ∃ L, L = ([] : List UInt8) ++ part M N (p + 1) := ⟨_, rfl⟩
            rw [← hL] at hownq hlen2
            have HL : Hid (L = ([] : List UInt8) ++ part M N (p + 1)) := hL
            clear hL hlen
            have e1 : ((p + 1 : Nat) : Int) - 1 = (p : Int) := by omega
            clear hcq
            rw [e1]
            clear e1
            by_cases h8 : p = 8
            · subst h8
              go_wp2_with (at_builtin; refine wpList_append_own _ rfl (.tmp 49) (.tmp 50) 22 rfl (w.heap.size + 1) 5 i0 (.int .u8 0) 1 1 Tryd.underlying22 hi hz0 hz1 hz2 rfl (by decide) _ _ _ rfl (hownq.alloc _) ⟨wr.heap.size, 0, none⟩ 1 1 [.int .u8 46] rfl rfl (one_cell wr _ rfl).1 (one_cell wr _ rfl).2 ?c3 ?c4 ?c5 ?_)
              case c3 => unfold maxLen; omega
              case c4 => omega
              case c5 => simp; omega
              intro v1 w1 hown1 hg1 _
              have hb1 := step_kept hownq hszq hg1
              have hcp1 := (hb1.cell (p := ⟨w.heap.size, 8, none⟩) (by simp)).trans hcp
              have hs1 : w.heap.size + 1 ≤ w1.heap.size := Nat.le_trans hszq hb1.size
              have hown2 := own_snoc (x := 46) L 46 rfl hown1
              obtain ⟨L2, hL2⟩ : ∃ L2, L2 = L ++ [46] := ⟨_, rfl⟩
              have hlen3 : L2.length ≤ 23 := by rw [hL2, List.length_append]; simp; omega
              rw [← hL2] at hown2
              have HL2 : Hid (L2 = ([] : List UInt8) ++ part M N 9 ++ [46]) := by rw [← HL.out]; exact hL2
              clear hL2
              clear hown1 hg1 hownq hcp
              go_wp2_with (at_builtin; refine wpList_append_own _ rfl (.tmp 52) (.tmp 56) 22 rfl (w.heap.size + 1) 5 i0 (.int .u8 0) 1 1 Tryd.underlying22 hi hz0 hz1 hz2 rfl (by decide) _ _ _ rfl (hown2.alloc _) ⟨w1.heap.size, 0, none⟩ 1 1 [.int .u8 ((Lib.dg M 8).toNat : Int)] rfl rfl (one_cell w1 _ rfl).1 (one_cell w1 _ rfl).2 ?c3 ?c4 ?c5 ?_)
              case c3 => unfold maxLen; omega
              case c4 => omega
              case c5 => simp; omega
              intro v2 w2 hown3 hg2 _
              have hb2 := hb1.trans (step_kept hown2 hs1 hg2)
              have R := rel3_point HL2.out hqN HCQ.out hBq hszq hb2 hown3
              clear hown3 hg2 hown2
              have HR : Hid (Rel3 w ([] : List UInt8) M N v2 (.int .i64 ((8 : Int) - 1)) w2) := R
              clear R
              go_wp2
              go_roundw
              case rel => first | exact HR.out | ((repeat apply Exists.intro); exact ⟨HR.out, rfl⟩)
              case measure => simp [RowKit.intOf]
            · have h8' : ((p : Int) == 8) = false := by rw [beq_eq_false_iff_ne]; omega
              go_wp2_with (at_builtin; refine wpList_append_own _ rfl (.tmp 52) (.tmp 56) 22 rfl (w.heap.size + 1) 5 i0 (.int .u8 0) 1 1 Tryd.underlying22 hi hz0 hz1 hz2 rfl (by decide) _ _ _ rfl (hownq.alloc _) ⟨wr.heap.size, 0, none⟩ 1 1 [.int .u8 ((Lib.dg M p).toNat : Int)] rfl rfl (one_cell wr _ rfl).1 (one_cell wr _ rfl).2 ?c3 ?c4 ?c5 ?_)
              case c3 => unfold maxLen; omega
              case c4 => omega
              case c5 => simp; omega
              intro v1 w1 hown1 hg1 _
              have hb1 := step_kept hownq hszq hg1
              have R := rel3_step HL.out hqN h8 HCQ.out hBq hszq hb1 hown1
              clear hown1 hg1 hownq
              have HR : Hid (Rel3 w ([] : List UInt8) M N v1 (.int .i64 ((p : Int) - 1)) w1) := R
              clear R
              go_wp2
              go_roundw
              case rel => first | exact HR.out | ((repeat apply Exists.intro); exact ⟨HR.out, rfl⟩)
              case measure => simp [RowKit.intOf]

set_option maxHeartbeats 1000000 in
theorem usd_neg (M : Nat) (hM1 : 1 ≤ M) (hM : M ≤ 9223372036854775808) (w : World) :
    Calls Tryd.prog 8 #[.int .i64 (-(M : Int))] w fun e w' => ∃ v', e = .returned v' ∧ w'.ownsRow w.heap.size 5 1 v' ([45] ++ usd M).length (Lib.byteCells ([45] ++ usd M)) ∧ Below w.heap.size w w' := by
  obtain ⟨i0, hi, hz0, hz1, hz2⟩ := info_parts info5
  have hneg : -(M : Int) < 0 := by omega
  have hwr := compl_neg M hM1 hM
  go_enter Tryd.func8, Tryd.ntmps8
  go_wp2
  go_loopw [4, 6] (fun x i wr => ∃ k : Nat, k ≤ 19 ∧ (k = 0 ∨ 10 ^ k ≤ M) ∧ x = .int .u64 ((M : Int) / 10 ^ k) ∧ i = .int .i64 (k : Int) ∧ (∀ j, j < 20 → wr.cell? ⟨w.heap.size, j, none⟩ = some (.int .u8 (dcell M k j))) ∧
      (∀ j, j < 20 → wr.frozen? ⟨w.heap.size, j, none⟩ = false) ∧ Below w.heap.size w wr ∧ w.heap.size + 1 ≤ wr.heap.size) (fun _ i _ => 20 - (RowKit.intOf i).toNat)
  case atStart => exact ⟨0, by omega, Or.inl rfl, by simp, rfl, start_cells M w, fun j _ => World.frozen?_alloc_new .., (Below.refl _ w).alloc (Nat.le_refl _) _, by simp⟩
  case round =>
    obtain ⟨k, hk, hk0, rfl, rfl, hcell, hfz, hB, hsz⟩ := hrel
    have hc := hcell k (by omega)
    have hf := hfz k (by omega)
    have HC : Hid (∀ j, j < 20 → wr.cell? ⟨w.heap.size, j, none⟩ = some (.int .u8 (dcell M k j))) := hcell
    have HF : Hid (∀ j, j < 20 → wr.frozen? ⟨w.heap.size, j, none⟩ = false) := hfz
    have HK : Hid (k = 0 ∨ 10 ^ k ≤ M) := hk0
    clear hcell hfz hk0
    by_cases hlt : M < 10 ^ (k + 1)
    rotate_left
    · have ht := mag_test_more M k (by omega) hlt
      have h10 : 10 ^ (k + 1) ≤ M := by omega
      have hk1 := pow_small M (k + 1) (by omega) h10
      have H10 : Hid (10 ^ (k + 1) ≤ M) := h10
      clear hlt h10
      go_wp2
      go_roundw
      case rel => exact ⟨k + 1, hk1, Or.inr H10.out, congrArg (Value.int .u64) (mag_next_int M k (by omega)), by go_num, put_cell (mag_digit M k) (by omega) HC.out, put_frozen HF.out, hB.setCell (Nat.le_refl _) _, by simpa using hsz⟩
      case measure => simp [RowKit.intOf]; omega
    have ht := mag_test_done M k (by omega) hlt
    have HLT : Hid (M < 10 ^ (k + 1)) := hlt
    clear hlt
    go_wp2
    clear ht
    go_loopw [6] (fun i wy => ∃ q : Nat, 1 ≤ q ∧ q ≤ 20 ∧ Hid (M < 10 ^ q ∧ (q ≤ 10 ∨ 10 ^ (q - 1) ≤ M)) ∧ i = .int .i64 (q : Int) ∧ (∀ j, j < 20 → wy.cell? ⟨w.heap.size, j, none⟩ = some (.int .u8 (dcell M q j))) ∧
        (∀ j, j < 20 → wy.frozen? ⟨w.heap.size, j, none⟩ = false) ∧ Below w.heap.size w wy ∧ w.heap.size + 1 ≤ wy.heap.size) (fun i _ => 20 - (RowKit.intOf i).toNat)
    case atStart =>
      refine ⟨k + 1, by omega, by omega, ⟨HLT.out, ?_⟩, by go_num, put_cell (mag_digit M k) (by omega) HC.out, put_frozen HF.out, hB.setCell (Nat.le_refl _) _, by simpa using hsz⟩
      rcases HK.out with h | h
      · left; omega
      · right; exact h
    case round =>
      clear HC HF HK HLT hc hf hB hsz hk
      obtain ⟨N, hN1, hN20, HN, rfl, hcN, hfN, hBN, hsN⟩ := hrel
      have HCN : Hid (∀ j, j < 20 → wr.cell? ⟨w.heap.size, j, none⟩ = some (.int .u8 (dcell M N j))) := hcN
      have HFN : Hid (∀ j, j < 20 → wr.frozen? ⟨w.heap.size, j, none⟩ = false) := hfN
      clear hcN hfN
      by_cases hN10 : N < 10
      · have hc := HCN.out N (by omega)
        have hf := HFN.out N (by omega)
        go_wp2
        go_roundw
        case rel =>
          have h1 : M < 10 ^ (N + 1) := Nat.lt_of_lt_of_le HN.out.1 (Nat.pow_le_pow_right (by omega) (by omega))
          exact ⟨N + 1, by omega, by omega, ⟨h1, Or.inl (by omega)⟩, by go_num, put_cell (dg_zero M N HN.out.1).symm (by omega) HCN.out, put_frozen HFN.out, hBN.setCell (Nat.le_refl _) _, by simpa using hsN⟩
        case measure => simp [RowKit.intOf]; omega
      · have hmk := make22
        clear HFN
        have hown0 : (wr.alloc (.cells zero22 5)).ownsRow (w.heap.size + 1) 5 1 (.slice (some ⟨wr.heap.size, 0, none⟩) 0 22) 0 [] := World.ownsRow_made wr zero22 22 hsN (by decide) rfl
        have hsA : w.heap.size + 1 ≤ (wr.alloc (.cells zero22 5)).heap.size := by simp; omega
        have eA : (wr.alloc (.cells zero22 5)).heap.size = wr.heap.size + 1 := by simp
        have oc := one_cell (wr.alloc (.cells zero22 5)) (.int .u8 45) rfl
        rw [eA] at oc
        have OC := Lib.hid oc
        have HO : Hid ((wr.alloc (.cells zero22 5)).ownsRow (w.heap.size + 1) 5 1 (.slice (some ⟨wr.heap.size, 0, none⟩) 0 22) 0 []) := hown0
        clear oc hown0 eA hsA
        go_wp2_with (at_builtin; refine wpList_append_own _ rfl (.tmp 38) (.tmp 39) 22 rfl (w.heap.size + 1) 5 i0 (.int .u8 0) 1 1 Tryd.underlying22 hi hz0 hz1 hz2 rfl (by decide) _ _ _ rfl (HO.out.alloc _) ⟨wr.heap.size + 1, 0, none⟩ 1 1 [.int .u8 45] rfl rfl OC.out.1 OC.out.2 (by decide) (by decide) ?c5 ?_)
        case c5 => simp; omega
        intro v0 w0 hown1 hg1 _
        have hb1 := step_kept HO.out (by simp; omega) hg1
        have hb0 : Below (w.heap.size + 1) wr w0 := ((Below.refl _ wr).alloc hsN _).trans hb1
        have hc0 : ∀ j, j < 20 → w0.cell? ⟨w.heap.size, j, none⟩ = some (.int .u8 (dcell M N j)) := fun j hj => (hb0.cell (p := ⟨w.heap.size, j, none⟩) (by simp)).trans (HCN.out j hj)
        have HC0 : Hid (∀ j, j < 20 → w0.cell? ⟨w.heap.size, j, none⟩ = some (.int .u8 (dcell M N j))) := hc0
        have hB0 : Below w.heap.size w w0 := hBN.trans (hb0.mono (by omega))
        have hs0 : w.heap.size + 1 ≤ w0.heap.size := Nat.le_trans hsN hb0.size
        have HO0 : Hid (w0.ownsRow (w.heap.size + 1) 5 1 v0 1 [.int .u8 45]) := hown1
        clear hc0 hown1 hg1 hb1 HO OC
        go_wp2
        go_loopw [7, 8] (fun v i wx => Rel3 w [45] M N v i wx) (fun _ i _ => (RowKit.intOf i + 1).toNat)
        case atStart =>
          refine ⟨N, Nat.le_refl _, rfl, ?_, ?_, ?_, ?_⟩
          · rw [part_start M N (by omega)]
            exact HO0.out
          · intro j hj
            exact HC0.out j hj
          · exact hB0
          · exact hs0

        case round =>
          clear HCN hBN hsN
          obtain ⟨q, hqN, rfl, hownq, hcq, hBq, hszq⟩ := hrel
          cases q with
          | zero =>
            have HO : Hid (wr.ownsRow (w.heap.size + 1) 5 1 u7 ([45] ++ part M N 0).length (Lib.byteCells ([45] ++ part M N 0))) := hownq
            clear hownq hcq
            go_wp2
            go_ret
            refine ⟨u7, rfl, ?_, hBq⟩
            have h := HO.out
            rw [part_end M N (by omega) HN.out.1 HN.out.2] at h
            exact owns_le h (by omega)
          | succ p =>
            have hlen := part_length M N (p + 1) hN20
            have hcp := hcq p (by omega)
            rw [dcell_in M N p (by omega)] at hcp
            have HCQ : Hid (∀ j, j < 20 → wr.cell? ⟨w.heap.size, j, none⟩ = some (.int .u8 (dcell M N j))) := hcq
            have hlen2 : ([45] ++ part M N (p + 1)).length ≤ 22 := by rw [List.length_append]; simp; omega
            obtain ⟨L, hL⟩ : ∃ L, L = [45] ++ part M N (p + 1) := ⟨_, rfl⟩
            rw [← hL] at hownq hlen2
            have HL : Hid (L = [45] ++ part M N (p + 1)) := hL
            clear hL hlen
            have e1 : ((p + 1 : Nat) : Int) - 1 = (p : Int) := by omega
            clear hcq
            rw [e1]
            clear e1
            by_cases h8 : p = 8
            · subst h8
              go_wp2_with (at_builtin; refine wpList_append_own _ rfl (.tmp 49) (.tmp 50) 22 rfl (w.heap.size + 1) 5 i0 (.int .u8 0) 1 1 Tryd.underlying22 hi hz0 hz1 hz2 rfl (by decide) _ _ _ rfl (hownq.alloc _) ⟨wr.heap.size, 0, none⟩ 1 1 [.int .u8 46] rfl rfl (one_cell wr _ rfl).1 (one_cell wr _ rfl).2 ?c3 ?c4 ?c5 ?_)
              case c3 => unfold maxLen; omega
              case c4 => omega
              case c5 => simp; omega
              intro v1 w1 hown1 hg1 _
              have hb1 := step_kept hownq hszq hg1
              have hcp1 := (hb1.cell (p := ⟨w.heap.size, 8, none⟩) (by simp)).trans hcp
              have hs1 : w.heap.size + 1 ≤ w1.heap.size := Nat.le_trans hszq hb1.size
              have hown2 := own_snoc (x := 46) L 46 rfl hown1
              obtain ⟨L2, hL2⟩ : ∃ L2, L2 = L ++ [46] := ⟨_, rfl⟩
              have hlen3 : L2.length ≤ 23 := by rw [hL2, List.length_append]; simp; omega
              rw [← hL2] at hown2
              have HL2 : Hid (L2 = [45] ++ part M N 9 ++ [46]) := by rw [← HL.out]; exact hL2
              clear hL2
              clear hown1 hg1 hownq hcp
              go_wp2_with (at_builtin; refine wpList_append_own _ rfl (.tmp 52) (.tmp 56) 22 rfl (w.heap.size + 1) 5 i0 (.int .u8 0) 1 1 Tryd.underlying22 hi hz0 hz1 hz2 rfl (by decide) _ _ _ rfl (hown2.alloc _) ⟨w1.heap.size, 0, none⟩ 1 1 [.int .u8 ((Lib.dg M 8).toNat : Int)] rfl rfl (one_cell w1 _ rfl).1 (one_cell w1 _ rfl).2 ?c3 ?c4 ?c5 ?_)
              case c3 => unfold maxLen; omega
              case c4 => omega
              case c5 => simp; omega
              intro v2 w2 hown3 hg2 _
              have hb2 := hb1.trans (step_kept hown2 hs1 hg2)
              have R := rel3_point HL2.out hqN HCQ.out hBq hszq hb2 hown3
              clear hown3 hg2 hown2
              have HR : Hid (Rel3 w [45] M N v2 (.int .i64 ((8 : Int) - 1)) w2) := R
              clear R
              go_wp2
              go_roundw
              case rel => first | exact HR.out | ((repeat apply Exists.intro); exact ⟨HR.out, rfl⟩)
              case measure => simp [RowKit.intOf]
            · have h8' : ((p : Int) == 8) = false := by rw [beq_eq_false_iff_ne]; omega
              go_wp2_with (at_builtin; refine wpList_append_own _ rfl (.tmp 52) (.tmp 56) 22 rfl (w.heap.size + 1) 5 i0 (.int .u8 0) 1 1 Tryd.underlying22 hi hz0 hz1 hz2 rfl (by decide) _ _ _ rfl (hownq.alloc _) ⟨wr.heap.size, 0, none⟩ 1 1 [.int .u8 ((Lib.dg M p).toNat : Int)] rfl rfl (one_cell wr _ rfl).1 (one_cell wr _ rfl).2 ?c3 ?c4 ?c5 ?_)
              case c3 => unfold maxLen; omega
              case c4 => omega
              case c5 => simp; omega
              intro v1 w1 hown1 hg1 _
              have hb1 := step_kept hownq hszq hg1
              have R := rel3_step HL.out hqN h8 HCQ.out hBq hszq hb1 hown1
              clear hown1 hg1 hownq
              have HR : Hid (Rel3 w [45] M N v1 (.int .i64 ((p : Int) - 1)) w1) := R
              clear R
              go_wp2
              go_roundw
              case rel => first | exact HR.out | ((repeat apply Exists.intro); exact ⟨HR.out, rfl⟩)
              case measure => simp [RowKit.intOf]

theorem usd_any (d : Int) (h1 : -9223372036854775808 ≤ d) (h2 : d ≤ 9223372036854775807) (w : World) :
    Calls Tryd.prog 8 #[.int .i64 d] w fun e w' => ∃ v', e = .returned v' ∧ w'.ownsRow w.heap.size 5 1 v' (usdText d).length (Lib.byteCells (usdText d)) ∧ Below w.heap.size w w' := by
  by_cases hd : d < 0
  · obtain ⟨m, rfl⟩ : ∃ m : Nat, d = -(m : Int) := ⟨d.natAbs, by omega⟩
    rw [usdText, if_pos hd, Int.natAbs_neg, Int.natAbs_natCast]
    exact usd_neg m (by omega) (by omega) w
  · obtain ⟨m, rfl⟩ : ∃ m : Nat, d = (m : Int) := ⟨d.natAbs, by omega⟩
    rw [usdText, if_neg hd, Int.natAbs_natCast]
    exact usd_pos m (by omega) w
end Go.Proofs.Qxb6602634aDoor
