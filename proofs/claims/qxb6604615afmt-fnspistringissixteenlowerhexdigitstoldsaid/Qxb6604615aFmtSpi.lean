/-
  THE WALKS OF (SPI).String AND parseHex16.
-/
import Derived.Test.Qxb6604615aFmtFmt
import Derived.Test.Qxb6604615aFmtHex
import Derived.WalkKit
import Derived.WalkSpells
import Derived.WalkLawsBesides
import Derived.Stop.FmtTextBases
import Derived.Stop.Texts
import Derived.Stop.Told
namespace Go.Proofs.Qxb6604615aFmt
open Go.RowKit Go.Extern.Stop Go.Stop Go.Extern Go.Kit
attribute [local go_sem] call11 guardOk fmtHex fmtHexR op22

def readHex (x : Int) : List (List UInt8) := [[37, 48, 49, 54, 120], shape22, digits 8 (x % 18446744073709551616).toNat]

theorem hexParse : (FmtText.parse [37, 48, 49, 54, 120]).map FmtText.glue = some [.verb { widPresent := true, wid := 16, zero := true } 120] := by rfl

theorem hexText (x : Int) (hw : (Lit.int .u64 x).wf = true) : FmtText.text "fmt.Sprintf" (readHex x) = some (hexN 16 x.toNat) := by
  have hi := FmtText.operand_int_at (sh := shape22) (k := .u64) rfl rfl x hw
  have hb := FmtText.int_bounds hw
  simp [IntKind.min, IntKind.max, IntKind.signed, IntKind.bits] at hb
  have e := hex16_text x.toNat (by omega)
  have e2 : x.natAbs = x.toNat := by omega
  rw [readHex, FmtText.text_sprintf_glued hexParse (FmtText.operands_cons hi FmtText.operands_nil)]
  have e3 := FmtText.printArg_x_zero false false 16 [117, 105, 110, 116, 54, 52] (k := .u64) hw
  simp only [FmtText.hexZeros, e2, if_neg (show ¬ x < 0 by omega)] at e3
  simp at e3
  rw [e] at e3
  simp [FmtText.render, e3]

set_option maxHeartbeats 400000 in
theorem spi_all (F : Interp) (x : Int) (w : World) (hF : F.answers w.tape) :
    Calls Tryf.prog 6 #[.int .u64 x] w fun e w' => e = .returned (.string (FmtStop.textOf (F "fmt.Sprintf" (readHex x) 0))) ∧
      w' = (w.alloc (.cells #[.iface 22 (.int .u64 x)] 20)).drew := by
  have hF' := answers_open hF
  go_enter Tryf.func6, Tryf.ntmps6
  go_wp2
  go_ret
  exact ⟨rfl, rfl⟩


/-- (SPI).String with fmt's text told: sixteen digits; nothing old has turned. -/
theorem spi_told (F : Interp) (x : Int) (w : World) (hF : F.told.answers w.tape) (hw : (Lit.int .u64 x).wf = true) :
    Calls Tryf.prog 6 #[.int .u64 x] w fun e w' => ∃ t : ByteArray, e = .returned (.string t) ∧ t.data.toList = hexN 16 x.toNat ∧ Below w.heap.size w w' := by
  refine (spi_all F.told x w hF).mono fun e w' ⟨he, hw'⟩ => ?_
  subst he; subst hw'
  refine ⟨_, rfl, ?_, ((Below.refl _ w).alloc (Nat.le_refl _) _).drew⟩
  rw [textOf_list, told_string F (hexText x hw) (by rw [hexN_length]; decide)]

theorem byte_hex (t : ByteArray) (n k : Nat) (ht : t.data.toList = hexN 16 n) (h : k < t.size) (hk : k < 16) :
    (n / 16 ^ (15 - k) % 16 < 10 ∧ t[k].toNat = 48 + n / 16 ^ (15 - k) % 16) ∨ (10 ≤ n / 16 ^ (15 - k) % 16 ∧ t[k].toNat = 87 + n / 16 ^ (15 - k) % 16) := by
  have e : t[k] = FmtText.digit false (n / 16 ^ (15 - k) % 16) := by
    rw [← hexN_getElem k n hk]
    simp only [← ht]
    rfl
  have hd : n / 16 ^ (15 - k) % 16 < 16 := Nat.mod_lt _ (by omega)
  rw [e]
  generalize n / 16 ^ (15 - k) % 16 = d at *
  have key : ∀ d : Fin 16, (d.val < 10 ∧ (FmtText.digit false d.val).toNat = 48 + d.val) ∨ (10 ≤ d.val ∧ (FmtText.digit false d.val).toNat = 87 + d.val) := by decide +kernel
  exact key ⟨d, hd⟩

theorem or_step (m : Nat) (hm : m < 16 ^ 16) : bits .or .u64 (IntKind.u64.wrap (((m / 16 : Nat) : Int) * 16)) ((m % 16 : Nat) : Int) = (m : Int) := by
  have e1 : IntKind.u64.wrap (((m / 16 : Nat) : Int) * 16) = ((m / 16 * 16 : Nat) : Int) := by
    simp [IntKind.wrap, IntKind.bits, IntKind.signed]
    omega
  rw [e1, bits_or_u64_nat _ _ (by omega) (by omega)]
  have e2 := Nat.two_pow_add_eq_or_of_lt (i := 4) (b := m % 16) (by omega) (m / 16)
  have e3 : m / 16 * 16 = 2 ^ 4 * (m / 16) := by omega
  rw [e3, ← e2]
  congr 1
  omega

theorem hex_step (n k : Nat) (x : Int) (hn : n < 16 ^ 16) (hk : k < 16) (hx : x = ((n / 16 ^ (15 - k) % 16 : Nat) : Int)) :
    bits .or .u64 (IntKind.u64.wrap ((n : Int) / 16 ^ (16 - k) * 16)) x = ((n / 16 ^ (16 - (k + 1)) : Nat) : Int) := by
  have e1 : 16 - (k + 1) = 15 - k := by omega
  have e2 : 16 - k = 15 - k + 1 := by omega
  have e3 : (n : Int) / 16 ^ (16 - k) = ((n / 16 ^ (15 - k) / 16 : Nat) : Int) := by
    rw [Nat.div_div_eq_div_mul, ← Nat.pow_succ, e2]
    simp
  have hm : n / 16 ^ (15 - k) < 16 ^ 16 := Nat.lt_of_le_of_lt (Nat.div_le_self _ _) hn
  rw [hx, e3, e1]
  exact or_step _ hm

set_option maxHeartbeats 400000 in
theorem parse_hex (t : ByteArray) (n : Nat) (hn : n < 16 ^ 16) (ht : t.data.toList = hexN 16 n) (w : World) :
    Calls Tryf.prog 8 #[.string t] w fun e w' => e = .returned (.tuple #[.int .u64 (n : Int), .bool true]) ∧ w' = w := by
  have hsz : t.size = 16 := by
    have := congrArg List.length ht
    rw [hexN_length] at this
    simpa using this
  have HT : Hid (t.data.toList = hexN 16 n) := ht
  clear ht
  go_enter Tryf.func8, Tryf.ntmps8
  go_wp2
  go_loop [4, 5] (fun v i => ∃ k : Nat, k ≤ 16 ∧ i = .int .i64 k ∧ v = .int .u64 ((n / 16 ^ (16 - k) : Nat) : Int)) (fun _ i => 16 - (intOf i).toNat)
  case atStart => exact ⟨0, by omega, rfl, by simp [Nat.div_eq_of_lt hn]⟩
  case round =>
    obtain ⟨k, hk, rfl, rfl⟩ := hrel
    by_cases hlt : k < 16
    · go_wp2
      all_goals have hb := byte_hex t n k HT.out (by omega) hlt
      · go_round
        case rel => exact ⟨k + 1, by omega, by go_num, congrArg (Value.int .u64) (hex_step n k _ hn hlt (by omega))⟩
        case measure => simp [intOf]; omega
      · go_round
        case rel => exact ⟨k + 1, by omega, by go_num, congrArg (Value.int .u64) (hex_step n k _ hn hlt (by omega))⟩
        case measure => simp [intOf]; omega
      all_goals (exfalso; omega)
    · go_wp2
      go_ret2
      have e : k = 16 := by omega
      subst e
      exact ⟨by simp, rfl⟩

theorem less_hex (ta tb : ByteArray) (a b : Int) (ha : 0 ≤ a ∧ a < 18446744073709551616) (hb : 0 ≤ b ∧ b < 18446744073709551616) (hta : ta.data.toList = hexN 16 a.toNat) (htb : tb.data.toList = hexN 16 b.toNat) :
    Op.bytesLess ta.toList tb.toList = decide (a < b) := by
  rw [ByteArray.toList_eq, ByteArray.toList_eq, hta, htb, hexN_less, Nat.mod_eq_of_lt (by omega), Nat.mod_eq_of_lt (by omega), Bool.eq_iff_iff]
  simp only [decide_eq_true_eq]
  omega

set_option maxHeartbeats 400000 in
theorem law_any (F : Interp) (a b : Int) (w : World) (hF : F.told.answers w.tape) (wa : (Lit.int .u64 a).wf = true) (wb : (Lit.int .u64 b).wf = true) :
    Calls Tryf.prog 4 #[.int .u64 a, .int .u64 b] w fun e w' => e = .returned (.bool true) ∧ Below w.heap.size w w' := by
  have ba := FmtText.int_bounds wa
  have bb := FmtText.int_bounds wb
  simp [IntKind.min, IntKind.max, IntKind.signed, IntKind.bits] at ba bb
  go_enter Tryf.func4, Tryf.ntmps4
  go_wp2_with fail
  refine (spi_told F a _ hF wa).mono ?_
  rintro e w1 ⟨ta, rfl, hta, hb1⟩
  have HTA : Hid (ta.data.toList = hexN 16 a.toNat) := hta
  clear hta
  go_wp2_with fail
  refine (spi_told F b _ (by rw [hb1.tape]; exact hF) wb).mono ?_
  rintro e w2 ⟨tb, rfl, htb, hb2⟩
  have HTB : Hid (tb.data.toList = hexN 16 b.toNat) := htb
  clear htb
  go_wp2_with fail
  refine (parse_hex ta a.toNat (by omega) HTA.out _).mono ?_
  rintro e w3 ⟨rfl, rfl⟩
  go_wp2_with fail
  refine (parse_hex tb b.toNat (by omega) HTB.out _).mono ?_
  rintro e w4 ⟨rfl, rfl⟩
  have hl := less_hex ta tb a b (by omega) (by omega) HTA.out HTB.out
  go_wp2
  go_ret
  exact ⟨rfl, hb1.trans (hb2.mono hb1.size)⟩
end Go.Proofs.Qxb6604615aFmt
