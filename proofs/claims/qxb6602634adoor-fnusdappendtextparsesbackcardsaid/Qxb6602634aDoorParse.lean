/-
  THE WALK OF b1ParseUSDText at a text of ours.
-/
import Derived.Test.Qxb6602634aDoorTxt
import Derived.Test.Qxb6602634aDoorProg
import Derived.WalkKit
import Derived.WalkSpells
import Derived.WalkLawsBesides
namespace Go.Proofs.Qxb6602634aDoor
open Go.RowKit

theorem ret_pair {a b : Int} (h : a = b) : Ending.returned (.tuple #[.int .i64 a, .bool true]) = .returned (.tuple #[.int .i64 b, .bool true]) := by rw [h]
theorem neg_back (V : Nat) (h1 : 1 ≤ V) (h2 : V ≤ 9223372036854775808) : wrap64 (IntKind.u64.wrap (bits .xor .u64 IntKind.u64.max (V : Int) + 1)) = -(V : Int) := by
  have hb : (BitVec.ofInt 64 (V : Int)).toNat = V := by
    rw [BitVec.ofInt_natCast, BitVec.toNat_ofNat]; exact Nat.mod_eq_of_lt (by omega)
  have ha : BitVec.ofInt 64 IntKind.u64.max = BitVec.allOnes 64 := by decide
  have e : bits .xor .u64 IntKind.u64.max (V : Int) = IntKind.u64.wrap ((BitVec.ofInt 64 IntKind.u64.max ^^^ BitVec.ofInt 64 (V : Int)).toNat : Int) := rfl
  rw [e, ha, BitVec.allOnes_xor, BitVec.toNat_not, hb, IntKind.wrap_u64, IntKind.wrap_u64]
  unfold wrap64
  omega

/-- What holds at the head of the reader's loop: K digits, the point, nine digits. -/
def RelP (M K s : Nat) (i v ni nf sp : Value) : Prop :=
  (∃ k r V : Nat, r ≤ K ∧ Hid (k = s + r) ∧ k ≤ 30 ∧ Hid (V = M / 10 ^ (K + 9 - r)) ∧ i = .int .i64 (k : Int) ∧ v = .int .u64 (V : Int) ∧ ni = .int .i64 (r : Int) ∧ nf = .int .i64 0 ∧ sp = .bool false) ∨
  (∃ k f V : Nat, f ≤ 9 ∧ Hid (k = s + K + 1 + f) ∧ k ≤ 30 ∧ Hid (V = M / 10 ^ (9 - f)) ∧ i = .int .i64 (k : Int) ∧ v = .int .u64 (V : Int) ∧ ni = .int .i64 (K : Int) ∧ nf = .int .i64 (f : Int) ∧ sp = .bool true)

set_option maxHeartbeats 1000000 in
theorem parse_pos (M K T g o cap : Nat) (t : Nat → Int) (hM : M ≤ 9223372036854775807) (X : Txt M K 0 T t) (w : World) (hc : ∀ j, j < T → w.cell? ⟨g, o + j, none⟩ = some (.int .u8 (t j))) :
    Calls Tryd.prog 10 #[.slice (some ⟨g, o, none⟩) T cap] w fun e w' => e = .returned (.tuple #[.int .i64 (M : Int), .bool true]) ∧ w' = w := by
  have HC : Hid (∀ j, j < T → w.cell? ⟨g, o + j, none⟩ = some (.int .u8 (t j))) := hc
  have hT1 : 11 ≤ T := by have := X.len; have := X.k1; omega
  have hT2 : T ≤ 21 := by have := X.len; have := X.k10; omega
  have hK1 := X.k1
  have hK10 := X.k10
  have h0T : 0 < T := by omega
  have c0 := HC.out 0 h0T
  have h0 : t 0 = ((Lib.dg M (K + 8)).toNat : Int) := by have := X.ints 0 (by omega); simpa using this
  have h0r := dg_range M (K + 8)
  rw [← h0] at h0r
  have h0n : (t 0 == 45) = false := by rw [beq_eq_false_iff_ne]; omega
  have H0 : Hid (t 0 = ((Lib.dg M (K + 8)).toNat : Int)) := h0
  rw [Nat.add_zero] at c0
  clear h0 h0r
  clear hc
  go_enter Tryd.func10, Tryd.ntmps10
  go_wp2
  go_loop [4, 7, 8, 9, 10] (fun i v ni nf sp => RelP M K 0 i v ni nf sp) (fun i _ _ _ _ => 40 - (intOf i).toNat)
  case atStart => exact Or.inl ⟨0, 0, 0, by omega, rfl, by omega, by show 0 = _; rw [Nat.sub_zero, Nat.div_eq_of_lt X.lt], rfl, rfl, rfl, rfl, rfl⟩
  case round =>
    rcases hrel with ⟨k, r, V, hr, Hk, hk30, HV, rfl, rfl, rfl, rfl, rfl⟩ | ⟨k, f, V, hf, Hk, hk30, HV, rfl, rfl, rfl, rfl, rfl⟩
    · have hkT : k < T := by have := Hk.out; have := X.len; omega
      have ck := HC.out k hkT
      have hkT' : (k : Int) < (T : Int) := by omega
      by_cases hrK : r < K
      · have hx : t k = ((Lib.dg M (K + 8 - r)).toNat : Int) := by rw [Hk.out]; exact X.ints r hrK
        have hxr := dg_range M (K + 8 - r)
        rw [← hx] at hxr
        have hxp : (t k == 46) = false := by rw [beq_eq_false_iff_ne]; omega
        have HX : Hid (t k = ((Lib.dg M (K + 8 - r)).toNat : Int)) := hx
        clear hx
        obtain ⟨hx1, hx2⟩ := hxr
        go_wp2
        go_round
        case rel =>
          refine Or.inl ⟨k + 1, r + 1, M / 10 ^ (K + 8 - r), by omega, by have := Hk.out; show k + 1 = _; omega, by omega, by show _ = _; congr 2; omega, by go_num, congrArg (Value.int .u64) (read_step M (K + 8 - r) V (t k) (by omega) ?_ HX.out), by go_num, rfl, rfl⟩
          rw [HV.out]; congr 2; omega
        case measure => simp [intOf]; omega
      · have hrK' : r = K := by omega
        have hx : (t k == 46) = true := by rw [beq_iff_eq, Hk.out, hrK']; exact X.point
        have hr0 : ((r : Int) == 0) = false := by rw [beq_eq_false_iff_ne]; omega
        have HR : Hid (r = K) := hrK'
        clear hrK'
        go_wp2
        go_round
        case rel =>
          refine Or.inr ⟨k + 1, 0, V, by omega, by have := Hk.out; have := HR.out; show k + 1 = _; omega, by omega, ?_, by go_num, rfl, ?_, rfl, rfl⟩
          · show V = _; rw [HV.out, HR.out]; congr 2; omega
          · rw [HR.out]
        case measure => simp [intOf]; omega
    · by_cases hf9 : f < 9
      · have hkT : k < T := by have := Hk.out; have := X.len; omega
        have ck := HC.out k hkT
        have hkT' : (k : Int) < (T : Int) := by omega
        have hx : t k = ((Lib.dg M (8 - f)).toNat : Int) := by rw [Hk.out]; exact X.fracs f hf9
        have hxr := dg_range M (8 - f)
        rw [← hx] at hxr
        have hxp : (t k == 46) = false := by rw [beq_eq_false_iff_ne]; omega
        have HX : Hid (t k = ((Lib.dg M (8 - f)).toNat : Int)) := hx
        clear hx
        obtain ⟨hx1, hx2⟩ := hxr
        go_wp2
        go_round
        case rel =>
          refine Or.inr ⟨k + 1, f + 1, M / 10 ^ (8 - f), by omega, by have := Hk.out; show k + 1 = _; omega, by omega, by show _ = _; congr 2; omega, by go_num, congrArg (Value.int .u64) (read_step M (8 - f) V (t k) (by omega) ?_ HX.out), rfl, by go_num, rfl⟩
          rw [HV.out]; congr 2; omega
        case measure => simp [intOf]; omega
      · have hkT : ¬ (k : Int) < (T : Int) := by have := Hk.out; have := X.len; omega
        have hV : V = M := by rw [HV.out]; have e : 9 - f = 0 := by omega
                              rw [e, Nat.pow_zero, Nat.div_one]
        have hf99 : ((f : Int) != 9) = false := by have e : f = 9 := by omega
                                                   subst e; rfl
        subst hV
        by_cases hK : K ≤ 1
        · go_wp2
          go_ret2
          exact ⟨rfl, rfl⟩
        · have hl : (t 0 == 48) = false := by
            rw [H0.out]
            exact lead_dg V K X.lt (by have := X.lead; omega)
          go_wp2
          go_ret2
          exact ⟨rfl, rfl⟩

set_option maxHeartbeats 1000000 in
theorem parse_neg (M K T g o cap : Nat) (t : Nat → Int) (hM : M ≤ 9223372036854775808) (hM1 : 1 ≤ M) (hs : t 0 = 45) (X : Txt M K 1 T t) (w : World) (hc : ∀ j, j < T → w.cell? ⟨g, o + j, none⟩ = some (.int .u8 (t j))) :
    Calls Tryd.prog 10 #[.slice (some ⟨g, o, none⟩) T cap] w fun e w' => e = .returned (.tuple #[.int .i64 (-(M : Int)), .bool true]) ∧ w' = w := by
  have HC : Hid (∀ j, j < T → w.cell? ⟨g, o + j, none⟩ = some (.int .u8 (t j))) := hc
  have hT1 : 11 ≤ T := by have := X.len; have := X.k1; omega
  have hT2 : T ≤ 21 := by have := X.len; have := X.k10; omega
  have hK1 := X.k1
  have hK10 := X.k10
  have h0T : 0 < T := by omega
  have c0 := HC.out 0 h0T
  have c1 := HC.out 1 (by omega)
  have h1T : (1 : Int) < (T : Int) := by omega
  have h1 : t 1 = ((Lib.dg M (K + 8)).toNat : Int) := by have := X.ints 0 (by omega); simpa using this
  have h0n : (t 0 == 45) = true := by rw [hs]; rfl
  have H1 : Hid (t 1 = ((Lib.dg M (K + 8)).toNat : Int)) := h1
  rw [Nat.add_zero] at c0
  clear h1 hs
  clear hc
  go_enter Tryd.func10, Tryd.ntmps10
  go_wp2
  go_loop [4, 7, 8, 9, 10] (fun i v ni nf sp => RelP M K 1 i v ni nf sp) (fun i _ _ _ _ => 40 - (intOf i).toNat)
  case atStart => exact Or.inl ⟨1, 0, 0, by omega, rfl, by omega, by show 0 = _; rw [Nat.sub_zero, Nat.div_eq_of_lt X.lt], rfl, rfl, rfl, rfl, rfl⟩
  case round =>
    rcases hrel with ⟨k, r, V, hr, Hk, hk30, HV, rfl, rfl, rfl, rfl, rfl⟩ | ⟨k, f, V, hf, Hk, hk30, HV, rfl, rfl, rfl, rfl, rfl⟩
    · have hkT : k < T := by have := Hk.out; have := X.len; omega
      have ck := HC.out k hkT
      have hkT' : (k : Int) < (T : Int) := by omega
      by_cases hrK : r < K
      · have hx : t k = ((Lib.dg M (K + 8 - r)).toNat : Int) := by rw [Hk.out]; exact X.ints r hrK
        have hxr := dg_range M (K + 8 - r)
        rw [← hx] at hxr
        have hxp : (t k == 46) = false := by rw [beq_eq_false_iff_ne]; omega
        have HX : Hid (t k = ((Lib.dg M (K + 8 - r)).toNat : Int)) := hx
        clear hx
        obtain ⟨hx1, hx2⟩ := hxr
        go_wp2
        go_round
        case rel =>
          refine Or.inl ⟨k + 1, r + 1, M / 10 ^ (K + 8 - r), by omega, by have := Hk.out; show k + 1 = _; omega, by omega, by show _ = _; congr 2; omega, by go_num, congrArg (Value.int .u64) (read_step M (K + 8 - r) V (t k) (by omega) ?_ HX.out), by go_num, rfl, rfl⟩
          rw [HV.out]; congr 2; omega
        case measure => simp [intOf]; omega
      · have hrK' : r = K := by omega
        have hx : (t k == 46) = true := by rw [beq_iff_eq, Hk.out, hrK']; exact X.point
        have hr0 : ((r : Int) == 0) = false := by rw [beq_eq_false_iff_ne]; omega
        have HR : Hid (r = K) := hrK'
        clear hrK'
        go_wp2
        go_round
        case rel =>
          refine Or.inr ⟨k + 1, 0, V, by omega, by have := Hk.out; have := HR.out; show k + 1 = _; omega, by omega, ?_, by go_num, rfl, ?_, rfl, rfl⟩
          · show V = _; rw [HV.out, HR.out]; congr 2; omega
          · rw [HR.out]
        case measure => simp [intOf]; omega
    · by_cases hf9 : f < 9
      · have hkT : k < T := by have := Hk.out; have := X.len; omega
        have ck := HC.out k hkT
        have hkT' : (k : Int) < (T : Int) := by omega
        have hx : t k = ((Lib.dg M (8 - f)).toNat : Int) := by rw [Hk.out]; exact X.fracs f hf9
        have hxr := dg_range M (8 - f)
        rw [← hx] at hxr
        have hxp : (t k == 46) = false := by rw [beq_eq_false_iff_ne]; omega
        have HX : Hid (t k = ((Lib.dg M (8 - f)).toNat : Int)) := hx
        clear hx
        obtain ⟨hx1, hx2⟩ := hxr
        go_wp2
        go_round
        case rel =>
          refine Or.inr ⟨k + 1, f + 1, M / 10 ^ (8 - f), by omega, by have := Hk.out; show k + 1 = _; omega, by omega, by show _ = _; congr 2; omega, by go_num, congrArg (Value.int .u64) (read_step M (8 - f) V (t k) (by omega) ?_ HX.out), rfl, by go_num, rfl⟩
          rw [HV.out]; congr 2; omega
        case measure => simp [intOf]; omega
      · have hkT : ¬ (k : Int) < (T : Int) := by have := Hk.out; have := X.len; omega
        have hV : V = M := by rw [HV.out]; have e : 9 - f = 0 := by omega
                              rw [e, Nat.pow_zero, Nat.div_one]
        have hf99 : ((f : Int) != 9) = false := by have e : f = 9 := by omega
                                                   subst e; rfl
        subst hV
        have hV0 : ((V : Int) == 0) = false := by rw [beq_eq_false_iff_ne]; omega
        by_cases hK : K ≤ 1
        · go_wp2
          go_ret2
          exact ⟨ret_pair (neg_back V hM1 hM), rfl⟩
        · have hl : (t 1 == 48) = false := by
            rw [H1.out]
            exact lead_dg V K X.lt (by have := X.lead; omega)
          go_wp2
          go_ret2
          exact ⟨ret_pair (neg_back V hM1 hM), rfl⟩

end Go.Proofs.Qxb6602634aDoor
