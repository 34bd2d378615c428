/-
  THE WALKS OF THE NOTIFY LAW.
-/
import Derived.Test.Qxb6604615aFmtFmt
import Derived.Test.Qxb6604615aFmtTab
import Derived.WalkKit
import Derived.WalkSpells
import Derived.WalkLawsBesides
import Derived.Stop.FmtTextBases
import Derived.Stop.Texts
import Derived.Stop.Told
namespace Go.Proofs.Qxb6604615aFmt
open Go.RowKit Go.Extern.Stop Go.Stop Go.Extern Go.Kit
attribute [local go_sem] call11 guardOk fmtDec fmtDecR op30

set_option maxHeartbeats 400000 in
theorem parse_dec (d : ByteArray) (n : Nat) (hn : n < 65536) (hd : d.data.toList = Lib.decDigits n) (w : World) :
    Calls Tryf.prog 15 #[.string d] w fun e w' => e = .returned (.tuple #[.int .u64 (n : Int), .bool true]) ∧ w' = w := by
  obtain ⟨k, hk, hk1, hk2⟩ := dec_size n hn
  have hsz : d.size = k + 1 := by
    have := congrArg List.length hd
    rw [Lib.decDigits_length, hk1] at this
    simpa using this
  have hlt : n < 10 ^ (k + 1) := by rw [← hk1]; exact Lib.lt_pow_nDigits n
  have HD : Hid (d.data.toList = Lib.decDigits n) := hd
  have HK1 : Hid (Lib.nDigits n = k + 1) := hk1
  have HK2 : Hid (k = 0 ∨ 10 ^ k ≤ n) := hk2
  have HLT : Hid (n < 10 ^ (k + 1)) := hlt
  clear hd hk1 hk2 hlt
  go_enter Tryf.func15, Tryf.ntmps15
  have hz : ((k : Int) + 1 == 0) = false := by rw [beq_eq_false_iff_ne]; omega
  have hp : 0 < d.size := by omega
  have hb0 := byte_dec d n k 0 HD.out HK1.out hp
  have hd0 : 0 < k → ((d[0].toNat : Int) == 48) = false := by
    intro h
    have := lead_dec n k (by have := HK2.out; omega) HLT.out
    rw [beq_eq_false_iff_ne]
    simp only [Nat.sub_zero] at hb0
    omega
  clear hb0
  by_cases h0 : k ≤ 0
  all_goals
    try (have hd1 := hd0 (by omega))
    clear hd0
    go_wp2
    go_loop [4, 5] (fun v i => ∃ j : Nat, j ≤ k + 1 ∧ i = .int .i64 j ∧ v = .int .u64 ((n / 10 ^ (k + 1 - j) : Nat) : Int)) (fun _ i => k + 1 - (intOf i).toNat)
    case atStart => exact ⟨0, by omega, rfl, by simp [Nat.div_eq_of_lt HLT.out]⟩
    case round =>
      obtain ⟨j, hj, rfl, rfl⟩ := hrel
      by_cases hjk : j < k + 1
      · go_wp2
        all_goals have hb := byte_dec d n k j HD.out HK1.out (by omega)
        all_goals have hm : n / 10 ^ (k - j) % 10 < 10 := Nat.mod_lt _ (by omega)
        all_goals try (exfalso; omega)
        go_round
        case rel => exact ⟨j + 1, by omega, by go_num, congrArg (Value.int .u64) (dec_step_int n k j _ hn (by omega) (by omega))⟩
        case measure => simp [intOf]; omega
      · go_wp2
        go_ret2
        have e : j = k + 1 := by omega
        subst e
        exact ⟨by simp, rfl⟩

def readDec (x : Int) : List (List UInt8) := [[110, 111, 116, 105, 102, 121, 84, 121, 112, 101, 40, 37, 100, 41], shape30, digits 8 (x % 18446744073709551616).toNat]

theorem decParse : (FmtText.parse [110, 111, 116, 105, 102, 121, 84, 121, 112, 101, 40, 37, 100, 41]).map FmtText.glue = some [.lit [110, 111, 116, 105, 102, 121, 84, 121, 112, 101, 40], .verb {} 100, .lit [41]] := by rfl

theorem decText (x : Int) (hw : (Lit.int .u16 x).wf = true) : FmtText.text "fmt.Sprintf" (readDec x) = some (pre ++ Lib.decDigits x.toNat ++ [41]) := by
  have hi := FmtText.operand_int_at (sh := shape30) (k := .u16) rfl rfl x hw
  have hb := FmtText.int_bounds hw
  simp [IntKind.min, IntKind.max, IntKind.signed, IntKind.bits] at hb
  have e : Lib.itoa x = Lib.decDigits x.toNat := by rw [Lib.itoa, if_neg (by omega)]
  rw [readDec, FmtText.text_sprintf_glued decParse (FmtText.operands_cons hi FmtText.operands_nil)]
  simp [FmtText.render, FmtText.printArg_d _ _ hw, e, pre]

theorem dec_short (n : Nat) (hw : (Lit.int .u16 (n : Int)).wf = true) : (pre ++ Lib.decDigits (n : Int).toNat ++ [41]).length < 2 ^ 63 := by
  have hb := FmtText.int_bounds hw
  simp [IntKind.min, IntKind.max, IntKind.signed, IntKind.bits] at hb
  obtain ⟨k, h1, h2, _⟩ := dec_size n (by omega)
  rw [List.length_append, List.length_append, Lib.decDigits_length, show ((n : Int).toNat) = n from rfl, h2]
  simp [pre]
  omega

set_option maxHeartbeats 400000 in
theorem str_all (F : Interp) (n : Nat) (w : World) (hF : F.told.answers w.tape) (hw : (Lit.int .u16 (n : Int)).wf = true) :
    Calls Tryf.prog 13 #[.int .u16 (n : Int)] w fun e w' => ∃ s, e = .returned (.string s) ∧ IsText s n ∧ Below w.heap.size w w' := by
  have hF' := answers_open hF
  go_enter Tryf.func13, Tryf.ntmps13
  go_wp2
  all_goals go_ret
  · exact ⟨nameOf 0, rfl, is_name 0 n 1 (by omega) rfl (by assumption), Below.refl _ _⟩
  · exact ⟨nameOf 1, rfl, is_name 1 n 7 (by omega) rfl (by assumption), Below.refl _ _⟩
  · exact ⟨nameOf 2, rfl, is_name 2 n 14 (by omega) rfl (by assumption), Below.refl _ _⟩
  · exact ⟨nameOf 3, rfl, is_name 3 n 17 (by omega) rfl (by assumption), Below.refl _ _⟩
  · exact ⟨nameOf 4, rfl, is_name 4 n 24 (by omega) rfl (by assumption), Below.refl _ _⟩
  · exact ⟨nameOf 5, rfl, is_name 5 n 35 (by omega) rfl (by assumption), Below.refl _ _⟩
  · exact ⟨nameOf 6, rfl, is_name 6 n 38 (by omega) rfl (by assumption), Below.refl _ _⟩
  · exact ⟨nameOf 7, rfl, is_name 7 n 48 (by omega) rfl (by assumption), Below.refl _ _⟩
  · exact ⟨nameOf 8, rfl, is_name 8 n 16384 (by omega) rfl (by assumption), Below.refl _ _⟩
  · exact ⟨nameOf 9, rfl, is_name 9 n 16388 (by omega) rfl (by assumption), Below.refl _ _⟩
  · exact ⟨nameOf 10, rfl, is_name 10 n 16389 (by omega) rfl (by assumption), Below.refl _ _⟩
  · exact ⟨nameOf 11, rfl, is_name 11 n 16390 (by omega) rfl (by assumption), Below.refl _ _⟩
  · exact ⟨nameOf 12, rfl, is_name 12 n 16393 (by omega) rfl (by assumption), Below.refl _ _⟩
  · exact ⟨nameOf 13, rfl, is_name 13 n 16444 (by omega) rfl (by assumption), Below.refl _ _⟩
  · refine ⟨_, rfl, Or.inr ⟨is_none n (by assumption) (by assumption) (by assumption) (by assumption) (by assumption) (by assumption) (by assumption) (by assumption) (by assumption) (by assumption) (by assumption) (by assumption) (by assumption) (by assumption), ?_⟩, ((Below.refl _ w).alloc (Nat.le_refl _) _).drew⟩
    show (FmtStop.textOf (F.told "fmt.Sprintf" (readDec n) 0)).data.toList = _
    rw [textOf_list, told_string F (decText n hw) (dec_short n hw)]
    rfl
end Go.Proofs.Qxb6604615aFmt
