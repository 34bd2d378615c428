/-
  THE WALKS OF notifyName AND notifyDecode; THE NOTIFY LAW.
-/
import Derived.Test.Qxb6604615aFmtTable
import Derived.Lib.Strings
namespace Go.Proofs.Qxb6604615aFmt
open Go.RowKit Go.Extern.Stop Go.Stop Go.Extern Go.Kit

theorem code_cells (W : World) (x : Obj) : ∀ j, j < 14 → ((W.alloc (.cells #[.int .u16 1, .int .u16 7, .int .u16 14, .int .u16 17, .int .u16 24, .int .u16 35, .int .u16 38, .int .u16 48, .int .u16 16384, .int .u16 16388, .int .u16 16389, .int .u16 16390, .int .u16 16393, .int .u16 16444] 41)).alloc x).cell? ⟨W.heap.size, j, none⟩ = some (.int .u16 ((codeOf j : Nat) : Int)) := by
  intro j hj
  rw [World.cell?_alloc_lt _ _ _ (by simp), World.cell?_alloc_new]
  match j, hj with
  | 0, _ | 1, _ | 2, _ | 3, _ | 4, _ | 5, _ | 6, _ | 7, _ | 8, _ | 9, _ | 10, _ | 11, _ | 12, _ | 13, _ => rfl
  | n + 14, h => exact absurd h (by omega)
theorem name_cells (W : World) (x : Obj) : ∀ j, j < 14 → ((W.alloc x).alloc (.cells #[.string nm0, .string nm1, .string nm2, .string nm3, .string nm4, .string nm5, .string nm6, .string nm7, .string nm8, .string nm9, .string nm10, .string nm11, .string nm12, .string nm13] 42)).cell? ⟨W.heap.size + 1, j, none⟩ = some (.string (nameOf j)) := by
  intro j hj
  have e : W.heap.size + 1 = (W.alloc x).heap.size := by simp
  rw [e, World.cell?_alloc_new]
  match j, hj with
  | 0, _ | 1, _ | 2, _ | 3, _ | 4, _ | 5, _ | 6, _ | 7, _ | 8, _ | 9, _ | 10, _ | 11, _ | 12, _ | 13, _ => rfl
  | n + 14, h => exact absurd h (by omega)

set_option maxHeartbeats 400000 in
theorem name_none (n : Nat) (hn : ∀ i, i < 14 → codeOf i ≠ n) (w : World) :
    Calls Tryf.prog 16 #[.int .u16 (n : Int)] w fun e w' => e = .returned (.tuple #[.string ⟨#[]⟩, .bool false]) ∧ Below w.heap.size w w' := by
  have HN : Hid (∀ i, i < 14 → codeOf i ≠ n) := hn
  clear hn
  go_enter Tryf.func16, Tryf.ntmps16
  go_wp2_with fail
  refine (table_any _).mono ?_
  rintro e w1 ⟨rfl, hb1⟩
  go_wp2
  go_loopw [6] (fun i wr => ∃ k : Nat, k ≤ 14 ∧ i = .int .i64 k ∧ (∀ j, j < 14 → wr.cell? ⟨w1.heap.size, j, none⟩ = some (.int .u16 ((codeOf j : Nat) : Int))) ∧ Below w1.heap.size w1 wr) (fun i _ => 14 - (intOf i).toNat)
  case atStart => exact ⟨0, by omega, rfl, code_cells w1 _, ((Below.refl _ w1).alloc (Nat.le_refl _) _).alloc (by simp) _⟩
  case round =>
    obtain ⟨k, hk, rfl, hc, hb⟩ := hrel
    by_cases hlt : k < 14
    · have hck := hc k hlt
      have ht : (((codeOf k : Nat) : Int) == (n : Int)) = false := by
        have := HN.out k hlt
        rw [beq_eq_false_iff_ne]; omega
      have HC : Hid (∀ j, j < 14 → wr.cell? ⟨w1.heap.size, j, none⟩ = some (.int .u16 ((codeOf j : Nat) : Int))) := hc
      clear hc
      go_wp2
      go_roundw
      case rel => exact ⟨k + 1, by omega, by go_num, HC.out, hb⟩
      case measure => simp [intOf]; omega
    · go_wp2
      go_ret2
      exact ⟨rfl, hb1.trans (hb.mono hb1.size)⟩

set_option maxHeartbeats 400000 in
theorem decode_name (i : Nat) (hi : i < 14) (s : ByteArray) (hs : s = nameOf i) (w : World) :
    Calls Tryf.prog 10 #[.string s] w fun e w' => e = .returned (.tuple #[.int .u16 ((codeOf i : Nat) : Int), .bool true]) ∧ Below w.heap.size w w' := by
  have HS : Hid (s = nameOf i) := hs
  clear hs
  go_enter Tryf.func10, Tryf.ntmps10
  go_wp2_with fail
  refine (table_any _).mono ?_
  rintro e w1 ⟨rfl, hb1⟩
  go_wp2
  go_loopw [6] (fun x wr => ∃ k : Nat, k ≤ i ∧ x = .int .i64 k ∧ (∀ j, j < 14 → wr.cell? ⟨w1.heap.size, j, none⟩ = some (.int .u16 ((codeOf j : Nat) : Int))) ∧ (∀ j, j < 14 → wr.cell? ⟨w1.heap.size + 1, j, none⟩ = some (.string (nameOf j))) ∧ Below w1.heap.size w1 wr) (fun x _ => 14 - (intOf x).toNat)
  case atStart => exact ⟨0, by omega, rfl, code_cells w1 _, name_cells w1 _, ((Below.refl _ w1).alloc (Nat.le_refl _) _).alloc (by simp) _⟩
  case round =>
    obtain ⟨k, hk, rfl, hc, hn, hb⟩ := hrel
    have hck := hc k (by omega)
    have hnk := hn k (by omega)
    have HC : Hid (∀ j, j < 14 → wr.cell? ⟨w1.heap.size, j, none⟩ = some (.int .u16 ((codeOf j : Nat) : Int))) := hc
    have HNm : Hid (∀ j, j < 14 → wr.cell? ⟨w1.heap.size + 1, j, none⟩ = some (.string (nameOf j))) := hn
    clear hc hn
    by_cases hlt : k < i
    · have ht : ((nameOf k).toList == s.toList) = false := by rw [HS.out]; exact names_differ k i (by omega) hi (by omega)
      go_wp2
      go_roundw
      case rel => exact ⟨k + 1, by omega, by go_num, HC.out, HNm.out, hb⟩
      case measure => simp [intOf]; omega
    · have hki : k = i := by omega
      have ht : ((nameOf k).toList == s.toList) = true := by rw [HS.out, hki]; simp
      have HK : Hid (k = i) := hki
      clear hki
      go_wp2
      go_ret2
      exact ⟨by rw [← HK.out]; rfl, hb1.trans (hb.mono hb1.size)⟩

theorem num_pre (n : Nat) (s : ByteArray) (hs : s.data.toList = pre ++ Lib.decDigits n ++ [41]) : (s.extract 0 11).toList = [110, 111, 116, 105, 102, 121, 84, 121, 112, 101, 40] := by
  rw [ByteArray.toList_eq, Lib.extract_data, hs]
  rfl
theorem num_last (n : Nat) (s : ByteArray) (hs : s.data.toList = pre ++ Lib.decDigits n ++ [41]) (h : s.size - 1 < s.size) : (((s[s.size - 1]'h).toNat : Int) != 41) = false := by
  have hl : s.data.toList.length = s.size := by simp
  have e : s[s.size - 1]'h = s.data.toList[s.data.toList.length - 1]'(by omega) := by
    simp only [hl]
    rfl
  have e2 : s.data.toList[s.data.toList.length - 1]'(by omega) = 41 := by
    simp only [hs]
    rw [List.getElem_append_right (by simp)]
    simp
  rw [e, e2]
  rfl
theorem num_mid (n : Nat) (s : ByteArray) (hs : s.data.toList = pre ++ Lib.decDigits n ++ [41]) : (s.extract 11 (s.size - 1)).data.toList = Lib.decDigits n := by
  have hl : s.size = 11 + Lib.nDigits n + 1 := by
    have := congrArg List.length hs
    rw [List.length_append, List.length_append, Lib.decDigits_length] at this
    simp [pre] at this
    omega
  rw [Lib.extract_data, hs, List.append_assoc]
  have e : List.drop 11 (pre ++ (Lib.decDigits n ++ [41])) = Lib.decDigits n ++ [41] := rfl
  rw [e, List.take_append_of_le_length (by rw [Lib.decDigits_length]; omega), List.take_of_length_le (by rw [Lib.decDigits_length]; omega)]

set_option maxHeartbeats 400000 in
theorem decode_num (n : Nat) (hn0 : n < 65536) (hno : ∀ i, i < 14 → codeOf i ≠ n) (s : ByteArray) (hs : s.data.toList = pre ++ Lib.decDigits n ++ [41]) (w : World) :
    Calls Tryf.prog 10 #[.string s] w fun e w' => e = .returned (.tuple #[.int .u16 (n : Int), .bool true]) ∧ Below w.heap.size w w' := by
  obtain ⟨q, hq, hq1, _⟩ := dec_size n hn0
  have hsz : s.size = q + 13 := by
    have := congrArg List.length hs
    rw [List.length_append, List.length_append, Lib.decDigits_length, hq1] at this
    simp [pre] at this
    omega
  have hs1 : 13 ≤ s.size := by omega
  have hs2 : s.size ≤ 17 := by omega
  have HSZ : Hid (s.size = q + 13) := hsz
  have HQ : Hid (Lib.nDigits n = q + 1) := hq1
  have HS : Hid (s.data.toList = pre ++ Lib.decDigits n ++ [41]) := hs
  have HNO : Hid (∀ i, i < 14 → codeOf i ≠ n) := hno
  clear hs hsz hno hq1
  go_enter Tryf.func10, Tryf.ntmps10
  go_wp2_with fail
  refine (table_any _).mono ?_
  rintro e w1 ⟨rfl, hb1⟩
  go_wp2
  go_loopw [6] (fun x wr => ∃ k : Nat, k ≤ 14 ∧ x = .int .i64 k ∧ (∀ j, j < 14 → wr.cell? ⟨w1.heap.size, j, none⟩ = some (.int .u16 ((codeOf j : Nat) : Int))) ∧ (∀ j, j < 14 → wr.cell? ⟨w1.heap.size + 1, j, none⟩ = some (.string (nameOf j))) ∧ Below w1.heap.size w1 wr) (fun x _ => 14 - (intOf x).toNat)
  case atStart => exact ⟨0, by omega, rfl, code_cells w1 _, name_cells w1 _, ((Below.refl _ w1).alloc (Nat.le_refl _) _).alloc (by simp) _⟩
  case round =>
    obtain ⟨k, hk, rfl, hc, hn, hb⟩ := hrel
    have HC : Hid (∀ j, j < 14 → wr.cell? ⟨w1.heap.size, j, none⟩ = some (.int .u16 ((codeOf j : Nat) : Int))) := hc
    have HNm : Hid (∀ j, j < 14 → wr.cell? ⟨w1.heap.size + 1, j, none⟩ = some (.string (nameOf j))) := hn
    clear hc hn
    by_cases hlt : k < 14
    · have hck := HC.out k (by omega)
      have hnk := HNm.out k (by omega)
      have ht : ((nameOf k).toList == s.toList) = false := names_no_num k hlt s (Lib.decDigits n ++ [41]) (by rw [HS.out, List.append_assoc])
      go_wp2
      go_roundw
      case rel => exact ⟨k + 1, by omega, by go_num, HC.out, HNm.out, hb⟩
      case measure => simp [intOf]; omega
    · clear HC HNm
      have hpre : (s.extract 0 11).toList = [110, 111, 116, 105, 102, 121, 84, 121, 112, 101, 40] := num_pre n s HS.out
      have hlast : (((s[s.size - 1]'(by omega)).toNat : Int) != 41) = false := num_last n s HS.out (by omega)
      go_wp2_with fail
      refine (parse_dec _ n hn0 (num_mid n s HS.out) _).mono ?_
      rintro e w2 ⟨rfl, rfl⟩
      go_wp2_with fail
      refine (name_none n HNO.out _).mono ?_
      rintro e w3 ⟨rfl, hb3⟩
      go_wp2
      go_ret2
      exact ⟨rfl, (hb1.trans (hb.mono hb1.size)).trans (hb3.mono (Nat.le_trans hb1.size hb.size))⟩

theorem decode_any (n : Nat) (hn : n < 65536) (s : ByteArray) (hs : IsText s n) (w : World) :
    Calls Tryf.prog 10 #[.string s] w fun e w' => e = .returned (.tuple #[.int .u16 (n : Int), .bool true]) ∧ Below w.heap.size w w' := by
  rcases hs with ⟨i, hi, rfl, hs⟩ | ⟨hno, hs⟩
  · exact decode_name i hi s hs w
  · exact decode_num n hn hno s hs w

set_option maxHeartbeats 400000 in
theorem zz_any (F : Interp) (n : Nat) (w : World) (hF : F.told.answers w.tape) (hw : (Lit.int .u16 (n : Int)).wf = true) :
    Calls Tryf.prog 9 #[.int .u16 (n : Int)] w fun e w' => ∃ s, e = .returned (.string s) ∧ IsText s n ∧ Below w.heap.size w w' := by
  go_enter Tryf.func9, Tryf.ntmps9
  go_wp2_with fail
  refine (str_all F n _ hF hw).mono ?_
  rintro e w1 ⟨s, rfl, hs, hb⟩
  have HS : Hid (IsText s n) := hs
  clear hs
  go_wp2
  go_ret
  exact ⟨s, rfl, HS.out, hb⟩

set_option maxHeartbeats 400000 in
theorem law_notify (F : Interp) (a b : Int) (w : World) (hF : F.told.answers w.tape) (wa : (Lit.int .u16 a).wf = true) (wb : (Lit.int .u16 b).wf = true) :
    Calls Tryf.prog 5 #[.int .u16 a, .int .u16 b] w fun e w' => e = .returned (.bool true) ∧ Below w.heap.size w w' := by
  have ba := FmtText.int_bounds wa
  have bb := FmtText.int_bounds wb
  simp [IntKind.min, IntKind.max, IntKind.signed, IntKind.bits] at ba bb
  obtain ⟨n, rfl⟩ : ∃ n : Nat, a = (n : Int) := ⟨a.toNat, by omega⟩
  obtain ⟨m, rfl⟩ : ∃ m : Nat, b = (m : Int) := ⟨b.toNat, by omega⟩
  have hn : n < 65536 := by omega
  have hm : m < 65536 := by omega
  clear ba bb
  go_enter Tryf.func5, Tryf.ntmps5
  go_wp2_with fail
  refine (zz_any F n _ hF wa).mono ?_
  rintro e w1 ⟨s, rfl, hs, hb1⟩
  have HS : Hid (IsText s n) := hs
  clear hs
  go_wp2_with fail
  refine (zz_any F m _ (by rw [hb1.tape]; exact hF) wb).mono ?_
  rintro e w2 ⟨t, rfl, ht, hb2⟩
  have HT : Hid (IsText t m) := ht
  clear ht
  go_wp2_with fail
  refine (decode_any n hn s HS.out _).mono ?_
  rintro e w3 ⟨rfl, hb3⟩
  go_wp2_with fail
  refine (decode_any m hm t HT.out _).mono ?_
  rintro e w4 ⟨rfl, hb4⟩
  have hl := text_apart n m s t HS.out HT.out
  go_wp2
  go_ret
  exact ⟨rfl, ((hb1.trans (hb2.mono hb1.size)).trans (hb3.mono (Nat.le_trans hb1.size hb2.size))).trans (hb4.mono (Nat.le_trans (Nat.le_trans hb1.size hb2.size) hb3.size))⟩
end Go.Proofs.Qxb6604615aFmt
