/-
  THE LAW FnJoinRolesSplitsBackWithoutCommas, walked.
-/
import Derived.Test.Qxb6602936aPlace
import Derived.Lib.Strings
namespace Go.Proofs.Qxb6602936a
open Go.RowKit

/-- No byte of the string is a comma. -/
def NoComma (x : ByteArray) (q : Nat) : Prop := ∀ i (h : i < x.size), i < q → x[i] ≠ 44

/-- A cut of a string, for the walk to take. -/
theorem slice_at (s : ByteArray) (lo hi : Nat) (h1 : lo ≤ hi) (h2 : hi ≤ s.size) (W : World) : (Instr.slice 9 (.string s) (some (.int .i64 (lo : Int))) (some (.int .i64 (hi : Int))) none).run Try.prog W = .ok (.string (s.extract lo hi)) W :=
  run_slice_string W 9 s .i64 .i64 (lo : Int) (hi : Int) Try.underlying9 (by omega) (by omega) (by omega)

/-- The part of the text between a role's ends is the role. -/
theorem part_is (xs : List ByteArray) (s : ByteArray) (hs : s.data.toList = joined xs) (k : Nat) (hk : k < xs.length) :
    (s.extract (tot (xs.take k) + k) (tot (xs.take k) + k + (xs.getD k ByteArray.empty).size)).data.toList = (xs.getD k ByteArray.empty).data.toList := by
  rw [Lib.extract_data, hs, joined_drop k xs hk, List.drop_eq_getElem_cons hk]
  obtain ⟨l, hl⟩ := joined_head xs[k] (xs.drop (k + 1))
  have e2 : (xs.getD k ByteArray.empty) = xs[k] := by simp [List.getD, hk]
  rw [hl, e2]
  have e3 : tot (xs.take k) + k + xs[k].size - (tot (xs.take k) + k) = xs[k].data.toList.length := by simp
  rw [e3, List.take_left]

/-- What holds at the head of the cutting loop: within role k, which begins at st; or behind the last. -/
def SplitAt (xs : List ByteArray) (n len k st p : Nat) : Prop :=
  (k < n ∧ st = tot (xs.take k) + k ∧ st ≤ p ∧ p ≤ st + (xs.getD k ByteArray.empty).size) ∨ (k = n ∧ p = len + 1)
theorem split_start (xs : List ByteArray) (n len : Nat) (h : 0 < n) : SplitAt xs n len 0 0 0 := Or.inl ⟨h, by simp [tot], by omega, by omega⟩

set_option maxHeartbeats 1000000 in
theorem split_any (a : Option Addr) (c n : Nat) (xs : List ByteArray) (hn : xs.length = n) (hm : n ≤ maxLen) (w : World) (h : Has w a xs) (ha : a = none → n = 0) :
    Calls Try.prog 4 #[.slice a n c] w fun e w' => e = .returned (.bool true) ∧ Below w.heap.size w w' := by
  have cb := bytes11 a c n xs hn hm w h
  have cs := size_ok a c n xs hn hm w h
  have HH := Lib.hid h
  have HN := Lib.hid hn
  have HA := Lib.hid ha
  clear h hn ha
  go_enter Try.func4, Try.ntmps4
  go_wp2_with fail
  refine cb.mono ?_
  rintro e w' ⟨⟨b, rfl, _⟩, rfl⟩
  clear cb
  cases b with
  | false =>
    go_wp2
    go_ret
    exact ⟨rfl, Below.refl _ _⟩
  | true =>
    go_wp2_with fail
    refine cs.mono ?_
    rintro e w' ⟨⟨b, rfl, hsz⟩, rfl⟩
    clear cs
    cases b with
    | false =>
      go_wp2
      go_ret
      exact ⟨rfl, Below.refl _ _⟩
    | true =>
      obtain ⟨hn1, hT⟩ := hsz rfl
      have HT := Lib.hid hT
      clear hsz hT
      by_cases hn0 : n = 0
      · have hz : ((n : Int) == 0) = true := by rw [beq_iff_eq]; omega
        clear hn0
        go_wp2
        go_ret
        exact ⟨rfl, Below.refl _ _⟩
      · have hz : ((n : Int) == 0) = false := by rw [beq_eq_false_iff_ne]; omega
        have hn00 : 0 < n := by omega
        clear hn0
        go_wp2
        go_loop [3] (fun i => ∃ k : Nat, k ≤ n ∧ Hid (∀ j, j < k → NoComma (xs.getD j ByteArray.empty) (xs.getD j ByteArray.empty).size) ∧ i = .int .i64 (k : Int)) (fun i => n - (intOf i).toNat)
        case atStart => exact ⟨0, by omega, fun j hj => absurd hj (Nat.not_lt_zero _), rfl⟩
        case round =>
          obtain ⟨k, hk, HK, rfl⟩ := hrel
          by_cases hlt : k < n
          · obtain ⟨b, o, hx, hb, hc⟩ := HH.out k (by rw [HN.out]; exact hlt)
            subst hx
            obtain ⟨x, hx⟩ : ∃ x, x = xs.getD k ByteArray.empty := ⟨_, rfl⟩
            rw [← hx] at hc
            have htl : x.size ≤ 1048576 := by
              have h1 := tot_step xs k (by rw [HN.out]; exact hlt)
              have h2 := tot_le xs (k + 1)
              have h3 := HT.out
              rw [← hx] at h1
              omega
            have HX := Lib.hid hx
            clear hx
            go_wp2
            go_loop [5] (fun j => ∃ q : Nat, q ≤ x.size ∧ Hid (NoComma x q) ∧ j = .int .i64 (q : Int)) (fun j => x.size - (intOf j).toNat)
            case atStart => exact ⟨0, by omega, fun _ _ hi => absurd hi (Nat.not_lt_zero _), rfl⟩
            case round =>
              obtain ⟨q, hq, HQ, rfl⟩ := hrel
              by_cases hql : q < x.size
              · by_cases hcm : x[q]'hql = 44
                · have hcm' : (((x[q]'hql).toNat : Int) == 44) = true := by rw [hcm]; rfl
                  clear hcm
                  go_wp2
                  go_ret
                  exact ⟨rfl, Below.refl _ _⟩
                · have hcm' : (((x[q]'hql).toNat : Int) == 44) = false := by
                    rw [beq_eq_false_iff_ne]
                    intro e
                    exact hcm (UInt8.toNat_inj.1 (by show (x[q]'hql).toNat = 44; omega))
                  have HCM := Lib.hid hcm
                  clear hcm
                  go_wp2
                  go_round
                  case rel =>
                    refine ⟨q + 1, by omega, ?_, by go_num⟩
                    intro i hi hiq
                    by_cases e : i = q
                    · subst e; exact HCM.out
                    · exact HQ.out i hi (by omega)
                  case measure => simp [intOf]; omega
              · go_wp2
                go_round
                case rel =>
                  refine ⟨k + 1, by omega, ?_, by go_num⟩
                  intro j hj
                  by_cases e : j = k
                  · subst e
                    rw [← HX.out]
                    intro i hi _
                    exact HQ.out i hi (by omega)
                  · exact HK.out j (by omega)
                case measure => simp [intOf]; omega
          · have hNC : ∀ j, j < n → NoComma (xs.getD j ByteArray.empty) (xs.getD j ByteArray.empty).size := fun j hj => HK.out j (by omega)
            have HNC := Lib.hid hNC
            clear hNC HK
            go_wp2_with fail
            refine (copy_any a c n xs HN.out (by omega) _ HH.out HA.out).mono ?_
            rintro e w1 ⟨a1, c1, rfl, h1, ha1, hB1⟩
            have H1 := Lib.hid h1
            have HA1 := Lib.hid ha1
            clear h1 ha1
            go_wp2_with fail
            refine (roles_any a1 c1 n xs HN.out (by omega) _ H1.out HA1.out).mono ?_
            rintro e w2 ⟨a2, c2, rfl, h2, hB2⟩
            have H2 := Lib.hid h2
            clear h2
            go_wp2_with fail
            refine (join_any _ _ n xs HN.out (by omega) ?_ _ H2.out).mono ?_
            · have h1 := joined_length xs
              have h2 := HT.out
              rw [HN.out] at h1
              omega
            rintro e w3 ⟨s, rfl, hs, hB3⟩
            have HS := Lib.hid hs
            have hB : Below w'.heap.size w' w3 := (hB1.trans (hB2.mono hB1.size)).trans (hB3.mono (Nat.le_trans hB1.size hB2.size))
            have H3 := Lib.hid ((H1.out.below hB2).below hB3)
            have hlen : s.size + 1 = tot xs + n := by
              have hl := congrArg List.length HS.out
              simp at hl
              have := joined_len xs (fun e => by rw [← HN.out, e] at hn00; exact absurd hn00 (Nat.lt_irrefl _))
              rw [HN.out] at this
              omega
            have HL := Lib.hid hlen
            have hs30 : s.size ≤ 4194304 := by have := HT.out; omega
            clear hs hB1 hB2 hB3 H1 H2 HA1 HH HA hlen
            go_wp2
            go_loopw [7, 8, 9] (fun zi zs zp wr => ∃ k st p : Nat, Hid (SplitAt xs n s.size k st p) ∧ k ≤ n ∧ st ≤ 4194306 ∧ p ≤ 4194306 ∧ zi = .int .i64 (k : Int) ∧ zs = .int .i64 (st : Int) ∧ zp = .int .i64 (p : Int) ∧ Hid (Has wr a1 xs) ∧ Below w'.heap.size w' wr) (fun _ _ zp _ => 4194310 - (intOf zp).toNat)
            case atStart => exact ⟨0, 0, 0, split_start xs n s.size hn00, by omega, by omega, by omega, rfl, rfl, rfl, H3.out, hB⟩
            case round =>
              clear H3 hB
              obtain ⟨k2, st, p, HSP, hk2, hst, hp, rfl, rfl, rfl, HW, hB⟩ := hrel
              rcases HSP.out with ⟨hkn, hst1, hp1, hp2⟩ | ⟨hkn, hp1⟩
              · obtain ⟨b, o, hx, hb, hc⟩ := HW.out k2 (by rw [HN.out]; exact hkn)
                subst hx
                obtain ⟨x, hx⟩ : ∃ x, x = xs.getD k2 ByteArray.empty := ⟨_, rfl⟩
                rw [← hx] at hc hp2
                have hstep := tot_step xs k2 (by rw [HN.out]; exact hkn)
                rw [← hx] at hstep
                have htl := tot_le xs (k2 + 1)
                have hend : st + x.size ≤ s.size := by have := HL.out; omega
                have HX := Lib.hid hx
                have HST := Lib.hid hst1
                have HSTEP := Lib.hid hstep
                clear hx hst1 hstep htl
                have hple : (p : Int) ≤ (s.size : Int) := by omega
                by_cases hin : p < st + x.size
                · have hps : p < s.size := by omega
                  have hcm : (((s[p]'hps).toNat : Int) == 44) = false := by
                    have hi : p - st < x.size := by omega
                    have h1 := joined_at xs k2 (p - st) (by rw [HN.out]; exact hkn) (by rw [← HX.out]; exact hi)
                    rw [← HST.out, Nat.add_sub_cancel' hp1] at h1
                    have h2 := byte_of HS.out p _ h1 hps
                    have h3 := HNC.out k2 hkn (p - st) (by rw [← HX.out]; exact hi) (by rw [← HX.out]; exact hi)
                    rw [← h2] at h3
                    rw [beq_eq_false_iff_ne]
                    intro e
                    exact h3 (UInt8.toNat_inj.1 (by show (s[p]'hps).toNat = 44; omega))
                  have hne : ((p : Int) == (s.size : Int)) = false := by rw [beq_eq_false_iff_ne]; omega
                  have hn3 : SplitAt xs n s.size k2 st (p + 1) := Or.inl ⟨hkn, HST.out, by omega, by rw [← HX.out]; omega⟩
                  have HN3 := Lib.hid hn3
                  clear hn3 hc hb HSP
                  go_wp2
                  go_roundw
                  case rel => exact ⟨k2, st, p + 1, HN3.out, by omega, by omega, by omega, rfl, rfl, by go_num, HW.out, hB⟩
                  case measure => simp [intOf]; omega
                · have hpe : p = st + x.size := by omega
                  have hE : ((s.extract st p).toList == x.toList) = true := by
                    have h1 := part_is xs s HS.out k2 (by rw [HN.out]; exact hkn)
                    rw [← HST.out, ← HX.out, ← hpe] at h1
                    exact str_eq h1
                  have hE2 : ((s.extract st p).toList != x.toList) = false := by rw [bne, hE]; rfl
                  have hsl := slice_at s st p (by omega) (by omega)
                  have HPE := Lib.hid hpe
                  clear hpe hin HSP
                  by_cases hlast : k2 + 1 = n
                  · have heq : ((p : Int) == (s.size : Int)) = true := by
                      have h1 := HSTEP.out
                      have h2 := HL.out
                      have h3 := HPE.out
                      have h4 := HST.out
                      rw [tot_all xs (k2 + 1) (by rw [HN.out]; omega)] at h1
                      rw [beq_iff_eq]
                      omega
                    have hn3 : SplitAt xs n s.size (k2 + 1) (p + 1) (p + 1) := Or.inr ⟨hlast, by rw [beq_iff_eq] at heq; omega⟩
                    have HN3 := Lib.hid hn3
                    clear hn3 hlast
                    have hng : decide ((n : Int) ≤ (k2 : Int)) = false := decide_eq_false (by omega)
                    go_wp2
                    go_quiet (fail)
                    go_wp2
                    go_roundw
                    case rel => exact ⟨k2 + 1, p + 1, p + 1, HN3.out, by omega, by omega, by omega, by go_num, by go_num, by go_num, HW.out.drewN _, below_drewN hB _⟩
                    case measure => simp [intOf]; omega
                  · have hps : p < s.size := by
                      have h1 := HSTEP.out
                      have h2 := HL.out
                      have h3 := HPE.out
                      have h4 := HST.out
                      have h5 := tot_le xs (k2 + 1)
                      omega
                    have hcm : (((s[p]'hps).toNat : Int) == 44) = true := by
                      have h1 := joined_at_comma xs k2 (by rw [HN.out]; omega)
                      have h2 : tot (xs.take (k2 + 1)) + k2 = p := by
                        have h1 := HSTEP.out
                        have h3 := HPE.out
                        have h4 := HST.out
                        omega
                      rw [h2] at h1
                      rw [byte_of HS.out p _ h1 hps]
                      rfl
                    have hne : ((p : Int) == (s.size : Int)) = false := by rw [beq_eq_false_iff_ne]; omega
                    have hn3 : SplitAt xs n s.size (k2 + 1) (p + 1) (p + 1) := by
                      refine Or.inl ⟨by omega, ?_, by omega, by omega⟩
                      have h1 := HSTEP.out
                      have h3 := HPE.out
                      have h4 := HST.out
                      omega
                    have HN3 := Lib.hid hn3
                    clear hn3 hlast
                    have hng : decide ((n : Int) ≤ (k2 : Int)) = false := decide_eq_false (by omega)
                    go_wp2
                    go_quiet (fail)
                    go_wp2
                    go_roundw
                    case rel => exact ⟨k2 + 1, p + 1, p + 1, HN3.out, by omega, by omega, by omega, by go_num, by go_num, by go_num, HW.out.drewN _, below_drewN hB _⟩
                    case measure => simp [intOf]; omega
              · have hgt : (s.size : Int) < (p : Int) := by omega
                have he : ((k2 : Int) == (n : Int)) = true := by rw [beq_iff_eq]; omega
                clear hkn hp1
                go_wp2
                go_ret
                exact ⟨rfl, hB⟩
end Go.Proofs.Qxb6602936a
