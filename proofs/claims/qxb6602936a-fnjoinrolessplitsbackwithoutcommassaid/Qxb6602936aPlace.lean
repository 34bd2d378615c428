/-
  THE LAW FnJoinRolesLaysEachRoleInPlace, walked.
-/
import Derived.Test.Qxb6602936aText
import Derived.Deep.QuietTactic
import Derived.BigQuiet
namespace Go.Proofs.Qxb6602936a
open Go.RowKit

/-- A byte of a string, for the walk to take. -/
theorem index_at (s : ByteArray) (i : Nat) (h : i < s.size) (z : Int) (hz : z = (i : Int)) (W : World) : (Instr.index 9 (.string s) (.int .i64 z)).run Try.prog W = .ok (.int .u8 ((s[i]'h).toNat : Int)) W := by
  subst hz
  rw [run_index_string W 9 s .i64 (i : Int) Try.underlying9]
  rw [dif_pos ⟨by omega, by omega⟩]
  rfl

set_option maxHeartbeats 1000000 in
theorem place_any (a : Option Addr) (c n : Nat) (xs : List ByteArray) (hn : xs.length = n) (hm : n ≤ maxLen) (w : World) (h : Has w a xs) (ha : a = none → n = 0) :
    Calls Try.prog 3 #[.slice a n c] w fun e w' => e = .returned (.bool true) ∧ Below w.heap.size w w' := by
  have cb := bytes6 a c n xs hn hm w h
  have cs := size_ok a c n xs hn hm w h
  have HH := Lib.hid h
  have HN := Lib.hid hn
  have HA := Lib.hid ha
  clear h hn ha
  go_enter Try.func3, Try.ntmps3
  go_wp2_with fail
  refine cb.mono ?_
  rintro e w' ⟨⟨b, rfl, _⟩, rfl⟩
  clear cb
  cases b with
  | false =>
    go_wp2
    go_ret
    exact ⟨rfl, Below.refl _ _⟩
  | true =>
    go_wp2_with fail
    refine cs.mono ?_
    rintro e w' ⟨⟨b, rfl, hsz⟩, rfl⟩
    clear cs
    cases b with
    | false =>
      go_wp2
      go_ret
      exact ⟨rfl, Below.refl _ _⟩
    | true =>
      obtain ⟨hn1, hT⟩ := hsz rfl
      have HT := Lib.hid hT
      clear hsz hT
      go_wp2_with fail
      refine (copy_any a c n xs HN.out (by omega) _ HH.out HA.out).mono ?_
      rintro e w1 ⟨a1, c1, rfl, h1, ha1, hB1⟩
      have H1 := Lib.hid h1
      have HA1 := Lib.hid ha1
      clear h1 ha1
      go_wp2_with fail
      refine (roles_any a1 c1 n xs HN.out (by omega) _ H1.out HA1.out).mono ?_
      rintro e w2 ⟨a2, c2, rfl, h2, hB2⟩
      have H2 := Lib.hid h2
      clear h2
      go_wp2_with fail
      refine (join_any _ _ n xs HN.out (by omega) ?_ _ H2.out).mono ?_
      · have h1 := joined_length xs
        have h2 := HT.out
        rw [HN.out] at h1
        omega
      rintro e w3 ⟨s, rfl, hs, hB3⟩
      have HS := Lib.hid hs
      have hB : Below w'.heap.size w' w3 := (hB1.trans (hB2.mono hB1.size)).trans (hB3.mono (Nat.le_trans hB1.size hB2.size))
      have H3 := Lib.hid ((H1.out.below hB2).below hB3)
      have hlen : s.size + 1 = tot xs + n ∨ (n = 0 ∧ s.size = 0) := by
        have hl := congrArg List.length HS.out
        simp at hl
        by_cases hx : xs = []
        · right
          rw [hx] at hl
          exact ⟨by rw [← HN.out, hx]; rfl, by rw [hl]; rfl⟩
        · left
          have := joined_len xs hx
          rw [HN.out] at this
          omega
      have HL := Lib.hid hlen
      have hs30 : s.size ≤ 4194304 := by have := HT.out; omega
      clear hs hB1 hB2 hB3 H1 H2 HA1 HH HA hlen
      go_wp2
      go_loopw [4, 5] (fun z i wr => ∃ k p : Nat, k ≤ n ∧ Hid (p = tot (xs.take k) + (k - 1)) ∧ p ≤ 4194304 ∧ z = .int .i64 (p : Int) ∧ i = .int .i64 (k : Int) ∧ Hid (Has wr a1 xs) ∧ Below w'.heap.size w' wr) (fun _ i _ => n - (intOf i).toNat)
      case atStart => exact ⟨0, 0, by omega, by show 0 = _; simp [tot], by omega, rfl, rfl, H3.out, hB⟩
      case round =>
        clear H3 hB
        obtain ⟨k, p, hk, HP, hp, rfl, rfl, HW, hB⟩ := hrel
        by_cases hlt : k < n
        · obtain ⟨b, o, hx, hb, hc⟩ := HW.out k (by rw [HN.out]; exact hlt)
          subst hx
          obtain ⟨x, hx⟩ : ∃ x, x = xs.getD k ByteArray.empty := ⟨_, rfl⟩
          rw [← hx] at hc
          have HX := Lib.hid hx
          have htl : tot (xs.take k) + x.size ≤ tot xs := by
            rw [hx, ← tot_step xs k (by rw [HN.out]; exact hlt)]
            exact tot_le xs (k + 1)
          have HTL := Lib.hid htl
          clear hx htl
          have hlen2 : s.size + 1 = tot xs + n := by have := HL.out; omega
          have HL2 := Lib.hid hlen2
          clear hlen2
          by_cases hk0 : k ≤ 0
          · have hp2 : p = tot (xs.take k) + k := by have := HP.out; omega
            have HP2 := Lib.hid hp2
            have hfit : (p : Int) + (x.size : Int) ≤ (s.size : Int) := by have := HL2.out; have := HTL.out; omega
            clear hp2
            have hxq : x.size ≤ 1048576 := by have := HT.out; have := HTL.out; omega
            go_wp2
            go_loopw [7] (fun j wx => ∃ q : Nat, q ≤ x.size ∧ j = .int .i64 (q : Int) ∧ Hid (Has wx (some ⟨b, o, none⟩) xs) ∧ Below w'.heap.size w' wx) (fun j _ => x.size - (intOf j).toNat)
            case atStart => exact ⟨0, by omega, rfl, HW.out, hB⟩
            case round =>
              clear HW hB hc hb
              obtain ⟨q, hq, rfl, HW, hB⟩ := hrel
              by_cases hql : q < x.size
              · have hi1 : p + q < s.size := by omega
                have hbe : s[p + q]'hi1 = x[q]'hql := by
                  have h1 := joined_at xs k q (by rw [HN.out]; exact hlt) (by rw [← HX.out]; exact hql)
                  rw [← HP2.out] at h1
                  rw [byte_of HS.out (p + q) _ h1 hi1]
                  simp only [← HX.out]
                have hia := index_at s (p + q) hi1 ((p : Int) + (q : Int)) (by omega)
                have hib := index_at x q hql (q : Int) rfl
                rw [hbe] at hia
                generalize ((x[q]'hql).toNat : Int) = X at hia hib
                clear hbe
                go_wp2
                go_quiet (fail)
                go_wp2
                go_roundw
                case rel => exact ⟨q + 1, by omega, by go_num, HW.out.drewN _, below_drewN hB _⟩
                case measure => simp [intOf]; omega
              · go_wp2
                go_roundw
                case rel =>
                  refine ⟨k + 1, p + x.size, by omega, ?_, by omega, by go_num, by go_num, HW.out, hB⟩
                  show _ = _
                  rw [tot_step xs k (by rw [HN.out]; exact hlt), ← HX.out, HP2.out]
                  omega
                case measure => simp [intOf]; omega
          · have hp2 : p + 1 = tot (xs.take k) + k := by have := HP.out; omega
            have HP2 := Lib.hid hp2
            have hfit : (p : Int) + 1 + (x.size : Int) ≤ (s.size : Int) := by have := HL2.out; have := HTL.out; omega
            have hps : p < s.size := by omega
            have hcm : (((s[p]'hps).toNat : Int) != 44) = false := by
              obtain ⟨k', rfl⟩ : ∃ k', k = k' + 1 := ⟨k - 1, by omega⟩
              have h1 := joined_at_comma xs k' (by rw [HN.out]; exact hlt)
              have h2 := HP.out
              rw [Nat.add_sub_cancel] at h2
              rw [← h2] at h1
              rw [byte_of HS.out p _ h1 hps]
              rfl
            clear hp2
            have hxq : x.size ≤ 1048576 := by have := HT.out; have := HTL.out; omega
            go_wp2
            go_loopw [7] (fun j wx => ∃ q : Nat, q ≤ x.size ∧ j = .int .i64 (q : Int) ∧ Hid (Has wx (some ⟨b, o, none⟩) xs) ∧ Below w'.heap.size w' wx) (fun j _ => x.size - (intOf j).toNat)
            case atStart => exact ⟨0, by omega, rfl, HW.out, hB⟩
            case round =>
              clear HW hB hc hb
              obtain ⟨q, hq, rfl, HW, hB⟩ := hrel
              by_cases hql : q < x.size
              · have hi1 : (p + 1) + q < s.size := by omega
                have hbe : s[(p + 1) + q]'hi1 = x[q]'hql := by
                  have h1 := joined_at xs k q (by rw [HN.out]; exact hlt) (by rw [← HX.out]; exact hql)
                  rw [← HP2.out] at h1
                  rw [byte_of HS.out ((p + 1) + q) _ h1 hi1]
                  simp only [← HX.out]
                have hia := index_at s ((p + 1) + q) hi1 (((p : Int) + 1) + (q : Int)) (by omega)
                have hib := index_at x q hql (q : Int) rfl
                rw [hbe] at hia
                generalize ((x[q]'hql).toNat : Int) = X at hia hib
                clear hbe
                go_wp2
                go_quiet (fail)
                go_wp2
                go_roundw
                case rel => exact ⟨q + 1, by omega, by go_num, HW.out.drewN _, below_drewN hB _⟩
                case measure => simp [intOf]; omega
              · go_wp2
                go_roundw
                case rel =>
                  refine ⟨k + 1, (p + 1) + x.size, by omega, ?_, by omega, by go_num, by go_num, HW.out, hB⟩
                  show _ = _
                  rw [tot_step xs k (by rw [HN.out]; exact hlt), ← HX.out, HP2.out]
                  omega
                case measure => simp [intOf]; omega
        · have he : (p : Int) = (s.size : Int) := by
            have h1 := HP.out
            rw [tot_all xs k (by rw [HN.out]; omega)] at h1
            have h2 := HL.out
            have h3 : n = 0 → tot xs = 0 := fun h0 => by
              have : xs = [] := List.eq_nil_of_length_eq_zero (by rw [HN.out]; exact h0)
              rw [this]; rfl
            omega
          have he2 : ((p : Int) == (s.size : Int)) = true := by rw [beq_iff_eq]; exact he
          clear he
          go_wp2
          go_ret
          exact ⟨rfl, hB⟩
end Go.Proofs.Qxb6602936a
