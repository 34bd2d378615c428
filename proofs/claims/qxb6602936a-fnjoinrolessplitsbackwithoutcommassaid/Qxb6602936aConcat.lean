/-
  THE LAW FnJoinRolesOfConcatenation, walked.
-/
import Derived.Test.Qxb6602936aSize
namespace Go.Proofs.Qxb6602936a
open Go.RowKit

theorem joinTail_length (sep : List UInt8) (r : List (List UInt8)) : (Lib.joinTail sep r).length = (r.map List.length).sum + sep.length * r.length := by
  unfold Lib.joinTail
  induction r with
  | nil => simp
  | cons x r ih =>
    simp only [List.map_cons, List.flatten_cons, List.length_append, List.sum_cons, List.length_cons] at ih ⊢
    rw [ih, Nat.mul_succ]
    omega
theorem joined_length (xs : List ByteArray) : (joined xs).length ≤ tot xs + xs.length := by
  cases xs with
  | nil => simp [joined, Lib.join_nil]
  | cons x r =>
    unfold joined tot
    rw [List.map_cons, Lib.join_cons, List.length_append, joinTail_length, List.map_map]
    have e : (List.map (List.length ∘ fun y : ByteArray => y.data.toList) r) = r.map (·.size) := List.map_congr_left fun y _ => by simp
    rw [e]
    simp
    omega
theorem tot_append (xs ys : List ByteArray) : tot (xs ++ ys) = tot xs + tot ys := by simp [tot]
theorem joined_nil : joined [] = [] := rfl
theorem joined_append (xs ys : List ByteArray) (hx : xs ≠ []) (hy : ys ≠ []) : joined (xs ++ ys) = joined xs ++ [44] ++ joined ys := by
  cases xs with
  | nil => exact absurd rfl hx
  | cons x r =>
    cases ys with
    | nil => exact absurd rfl hy
    | cons y s =>
      unfold joined
      rw [List.cons_append, List.map_cons, Lib.join_cons, List.map_append, List.map_cons, List.map_cons, Lib.join_cons, Lib.join_cons]
      simp [Lib.joinTail]

theorem str_eq {s t : ByteArray} (h : s.data.toList = t.data.toList) : (s.toList == t.toList) = true := by
  rw [ByteArray.toList_eq, ByteArray.toList_eq, h, beq_self_eq_true]

theorem getD_left (xs ys : List ByteArray) (k : Nat) (h : k < xs.length) : (xs ++ ys).getD k ByteArray.empty = xs.getD k ByteArray.empty := by
  rw [List.getD_eq_getElem?_getD, List.getD_eq_getElem?_getD, List.getElem?_append_left h]
theorem getD_right (xs ys : List ByteArray) (k : Nat) : (xs ++ ys).getD (xs.length + k) ByteArray.empty = ys.getD k ByteArray.empty := by
  rw [List.getD_eq_getElem?_getD, List.getD_eq_getElem?_getD, List.getElem?_append_right (by omega)]
  congr 2
  omega

set_option maxHeartbeats 1000000 in
theorem concat_any (a a2 : Option Addr) (c n c2 n2 : Nat) (xs ys : List ByteArray) (hn : xs.length = n) (hm : n ≤ maxLen) (hn2 : ys.length = n2) (hm2 : n2 ≤ maxLen) (w : World) (h : Has w a xs) (h2 : Has w a2 ys) (ha : a = none → n = 0) (ha2 : a2 = none → n2 = 0) :
    Calls Try.prog 5 #[.slice a n c, .slice a2 n2 c2] w fun e w' => e = .returned (.bool true) ∧ Below w.heap.size w w' := by
  have cb := bytes12 a a2 c n c2 n2 xs ys hn hm hn2 hm2 w h h2
  unfold maxLen at hm hm2
  have HH := Lib.hid h
  have HN := Lib.hid hn
  have HH2 := Lib.hid h2
  have HN2 := Lib.hid hn2
  have HA := Lib.hid ha
  have HA2 := Lib.hid ha2
  clear h hn h2 hn2 ha ha2
  go_enter Try.func5, Try.ntmps5
  go_wp2_with fail
  refine cb.mono ?_
  rintro e w' ⟨⟨b, rfl, _⟩, rfl⟩
  clear cb
  cases b with
  | false =>
    go_wp2
    go_ret
    exact ⟨rfl, Below.refl _ _⟩
  | true =>
    by_cases hb1 : 65536 < n
    · go_wp2
      go_ret
      exact ⟨rfl, Below.refl _ _⟩
    · by_cases hb2 : 65536 < n2
      · go_wp2
        go_ret
        exact ⟨rfl, Below.refl _ _⟩
      · by_cases hb3 : 1048576 < 16 * (n + n2)
        · go_wp2
          go_ret
          exact ⟨rfl, Below.refl _ _⟩
        · go_wp2
          go_loop [5, 6] (fun z i => ∃ k t : Nat, k ≤ n ∧ t ≤ 1048576 ∧ Hid (t = tot (xs.take k) + 16 * (n + n2)) ∧ z = .int .i64 (t : Int) ∧ i = .int .i64 (k : Int)) (fun _ i => n - (intOf i).toNat)
          case atStart => exact ⟨0, 16 * (n + n2), by omega, by omega, by show _ = _; simp [tot], by go_num, rfl⟩
          case round =>
            obtain ⟨k, t, hk, ht, HT, rfl, rfl⟩ := hrel
            by_cases hlt : k < n
            · obtain ⟨b, o, hx, hb, hc⟩ := HH.out k (by rw [HN.out]; exact hlt)
              subst hx
              obtain ⟨x, hx⟩ : ∃ x, x = xs.getD k ByteArray.empty := ⟨_, rfl⟩
              rw [← hx] at hc
              have HX := Lib.hid hx
              clear hx
              by_cases hx1 : x.size ≤ 1048576
              · by_cases hx2 : t + x.size ≤ 1048576
                · go_wp2
                  go_round
                  case rel =>
                    refine ⟨k + 1, t + x.size, by omega, hx2, ?_, by go_num, by go_num⟩
                    show _ = _
                    rw [tot_step xs k (by rw [HN.out]; exact hlt), ← HX.out, HT.out]
                    omega
                  case measure => simp [intOf]; omega
                · go_wp2
                  go_ret
                  exact ⟨rfl, Below.refl _ _⟩
              · go_wp2
                go_ret
                exact ⟨rfl, Below.refl _ _⟩
            · have hT1 : t = tot xs + 16 * (n + n2) := by rw [HT.out, tot_all xs k (by rw [HN.out]; omega)]
              have HT1 := Lib.hid hT1
              clear hT1 HT
              go_wp2
              go_loop [5, 7] (fun z i => ∃ k t : Nat, k ≤ n2 ∧ t ≤ 1048576 ∧ Hid (t = tot (ys.take k) + tot xs + 16 * (n + n2)) ∧ z = .int .i64 (t : Int) ∧ i = .int .i64 (k : Int)) (fun _ i => n2 - (intOf i).toNat)
              case atStart => exact ⟨0, t, by omega, ht, by show _ = _; rw [HT1.out]; simp [tot], by go_num, rfl⟩
              case round =>
                clear HT1
                obtain ⟨q, t2, hq, ht2, HT2, rfl, rfl⟩ := hrel
                by_cases hlt2 : q < n2
                · obtain ⟨b, o, hx, hb, hc⟩ := HH2.out q (by rw [HN2.out]; exact hlt2)
                  subst hx
                  obtain ⟨x, hx⟩ : ∃ x, x = ys.getD q ByteArray.empty := ⟨_, rfl⟩
                  rw [← hx] at hc
                  have HX := Lib.hid hx
                  clear hx
                  by_cases hx1 : x.size ≤ 1048576
                  · by_cases hx2 : t2 + x.size ≤ 1048576
                    · go_wp2
                      go_round
                      case rel =>
                        refine ⟨q + 1, t2 + x.size, by omega, hx2, ?_, by go_num, by go_num⟩
                        show _ = _
                        rw [tot_step ys q (by rw [HN2.out]; exact hlt2), ← HX.out, HT2.out]
                        omega
                      case measure => simp [intOf]; omega
                    · go_wp2
                      go_ret
                      exact ⟨rfl, Below.refl _ _⟩
                  · go_wp2
                    go_ret
                    exact ⟨rfl, Below.refl _ _⟩
                · have hT : tot ys + tot xs + 16 * (n + n2) ≤ 1048576 := by
                    have := HT2.out
                    rw [tot_all ys q (by rw [HN2.out]; omega)] at this
                    omega
                  have HTT := Lib.hid hT
                  clear hT HT2
                  go_wp2_with fail
                  refine (copy_any a c n xs HN.out (by omega) _ HH.out HA.out).mono ?_
                  rintro e w1 ⟨a1, c1, rfl, h1, ha1, hB1⟩
                  have H1 := Lib.hid h1
                  have HA1 := Lib.hid ha1
                  clear h1 ha1
                  go_wp2_with fail
                  refine (copy_any a2 c2 n2 ys HN2.out (by omega) _ (HH2.out.below hB1) HA2.out).mono ?_
                  rintro e w2 ⟨b1, d1, rfl, k1, kb1, hB2⟩
                  have K1 := Lib.hid k1
                  have KA1 := Lib.hid kb1
                  clear k1 kb1
                  go_wp2_with fail
                  refine (roles_any a1 c1 n xs HN.out (by omega) _ (H1.out.below hB2) HA1.out).mono ?_
                  rintro e w3 ⟨a3, c3, rfl, h3, hB3⟩
                  have H3 := Lib.hid h3
                  clear h3
                  go_wp2_with fail
                  refine (roles_any b1 d1 n2 ys HN2.out (by omega) _ (K1.out.below hB3) KA1.out).mono ?_
                  rintro e w4 ⟨b4, d4, rfl, k4, hB4⟩
                  have H4 := Lib.hid (H3.out.below hB4)
                  have K4 := Lib.hid k4
                  have hB : Below w'.heap.size w' w4 := ((hB1.trans (hB2.mono hB1.size)).trans (hB3.mono (Nat.le_trans hB1.size hB2.size))).trans (hB4.mono (Nat.le_trans (Nat.le_trans hB1.size hB2.size) hB3.size))
                  clear k4 H1 HA1 K1 KA1 H3 HH HH2 HA HA2
                  have hmk := run_make_row' (P := Try.prog) 26 29 (.string ByteArray.empty) 16 Try.underlying26 info29 rfl .i64 .i64 (n + n2) (by omega) (by omega)
                  have ec : ((n + n2 : Nat) : Int) = (n : Int) + (n2 : Int) := by omega
                  rw [ec] at hmk
                  clear ec hB1 hB2 hB3 hB4
                  obtain ⟨zs, hzs⟩ : ∃ zs, zs = xs ++ ys := ⟨_, rfl⟩
                  have HZ := Lib.hid hzs
                  have hzl : zs.length = n + n2 := by rw [hzs, List.length_append, HN.out, HN2.out]
                  have HZL := Lib.hid hzl
                  have hzt : (joined zs).length ≤ 4194304 := by
                    have h1 := joined_length zs
                    have h2 := HTT.out
                    rw [hzs, tot_append] at h1
                    rw [hzs]
                    rw [List.length_append, HN.out, HN2.out] at h1
                    omega
                  have HZT := Lib.hid hzt
                  clear hzs hzl hzt
                  go_wp2
                  go_loopw [11] (fun i wr => ∃ k : Nat, k ≤ n ∧ i = .int .i64 (k : Int) ∧ Hid (wr.rowIs w4.heap.size 29 (n + n2) (laidAt zs k)) ∧ Below w4.heap.size w4 wr) (fun i _ => n - (intOf i).toNat)
                  case atStart => exact ⟨0, by omega, rfl, row_start w4 29 (n + n2) zs, (Below.refl _ w4).alloc (Nat.le_refl _) _⟩
                  case round =>
                    obtain ⟨k3, hk3, rfl, HR, hBr⟩ := hrel
                    by_cases hlt3 : k3 < n
                    · obtain ⟨b, o, hx, hb, hc⟩ := H4.out k3 (by rw [HN.out]; exact hlt3)
                      rw [← getD_left xs ys k3 (by rw [HN.out]; exact hlt3), ← HZ.out] at hc
                      subst hx
                      have hc1 := (hBr.cell (p := ⟨b, o + k3, none⟩) hb).trans hc
                      have hc2 := HR.out.cell (show k3 < n + n2 by omega)
                      have hf2 := HR.out.frozen k3
                      have hlt4 : (k3 : Int) < (n : Int) + (n2 : Int) := by omega
                      clear hc
                      go_wp2
                      go_roundw
                      case rel => exact ⟨k3 + 1, by omega, by go_num, row_step HR.out, hBr.setCell (Nat.le_refl _) _⟩
                      case measure => simp [intOf]; omega
                    · have hrow : wr.rowIs w4.heap.size 29 (n + n2) (laidAt zs n) := by
                        have e : k3 = n := by omega
                        have := HR.out
                        rw [e] at this
                        exact this
                      have HR0 := Lib.hid hrow
                      clear hrow HR
                      go_wp2
                      go_loopw [12] (fun i wx => ∃ k : Nat, k ≤ n2 ∧ i = .int .i64 (k : Int) ∧ Hid (wx.rowIs w4.heap.size 29 (n + n2) (laidAt zs (n + k))) ∧ Below w4.heap.size w4 wx) (fun i _ => n2 - (intOf i).toNat)
                      case atStart => exact ⟨0, by omega, rfl, HR0.out, hBr⟩
                      case round =>
                        clear HR0 hBr
                        obtain ⟨k4, hk4, rfl, HR, hBr⟩ := hrel
                        by_cases hlt4 : k4 < n2
                        · obtain ⟨b, o, hx, hb, hc⟩ := K4.out k4 (by rw [HN2.out]; exact hlt4)
                          have e5 : ys.getD k4 ByteArray.empty = zs.getD (n + k4) ByteArray.empty := by rw [HZ.out, ← HN.out]; exact (getD_right xs ys k4).symm
                          rw [e5] at hc
                          subst hx
                          have hc1 := (hBr.cell (p := ⟨b, o + k4, none⟩) hb).trans hc
                          have hc2 := HR.out.cell (show n + k4 < n + n2 by omega)
                          have hf2 := HR.out.frozen (n + k4)
                          have hlt5 : (n : Int) + (k4 : Int) < (n : Int) + (n2 : Int) := by omega
                          clear hc e5
                          go_wp2
                          go_roundw
                          case rel => exact ⟨k4 + 1, by omega, by go_num, row_step HR.out, hBr.setCell (Nat.le_refl _) _⟩
                          case measure => simp [intOf]; omega
                        · have hW : Has wr (some ⟨w4.heap.size, 0, none⟩) zs := has_row (t := 29) (by rw [HZL.out]; exact row_full HR.out (by omega))
                          have HWh := Lib.hid hW
                          clear hW HR
                          go_wp2_with fail
                          refine (join_any _ _ (n + n2) zs HZL.out (by omega) HZT.out _ HWh.out).mono ?_
                          rintro e w6 ⟨s6, rfl, hs6, hB6⟩
                          have HS6 := Lib.hid hs6
                          clear hs6 HWh
                          go_wp2_with fail
                          refine (join_any _ _ n xs HN.out (by omega) ?_ _ ((H4.out.below hBr).below hB6)).mono ?_
                          · have h1 := joined_length xs
                            have h2 := HTT.out
                            rw [HN.out] at h1
                            omega
                          rintro e w7 ⟨s7, rfl, hs7, hB7⟩
                          have HS7 := Lib.hid hs7
                          clear hs7
                          go_wp2_with fail
                          refine (join_any _ _ n2 ys HN2.out (by omega) ?_ _ (((K4.out.below hBr).below hB6).below hB7)).mono ?_
                          · have h1 := joined_length ys
                            have h2 := HTT.out
                            rw [HN2.out] at h1
                            omega
                          rintro e w8 ⟨s8, rfl, hs8, hB8⟩
                          have HS8 := Lib.hid hs8
                          clear hs8
                          have hBe : Below w'.heap.size w' w8 := ((((hB.trans (hBr.mono hB.size)).trans (hB6.mono (Nat.le_trans hB.size hBr.size))).trans (hB7.mono (Nat.le_trans (Nat.le_trans hB.size hBr.size) hB6.size)))).trans (hB8.mono (Nat.le_trans (Nat.le_trans (Nat.le_trans hB.size hBr.size) hB6.size) hB7.size))
                          clear hB hBr hB6 hB7 hB8 H4 K4
                          by_cases hn0 : n = 0
                          · have hxe : xs = [] := List.eq_nil_of_length_eq_zero (by rw [HN.out]; exact hn0)
                            have he : (s6.toList == s8.toList) = true := str_eq (by rw [HS6.out, HS8.out, HZ.out, hxe, List.nil_append])
                            have hz1 : ((n : Int) == 0) = true := by rw [beq_iff_eq]; omega
                            clear hn0 hxe
                            go_wp2
                            go_ret
                            exact ⟨rfl, hBe⟩
                          · have hz1 : ((n : Int) == 0) = false := by rw [beq_eq_false_iff_ne]; omega
                            by_cases hn20 : n2 = 0
                            · have hye : ys = [] := List.eq_nil_of_length_eq_zero (by rw [HN2.out]; exact hn20)
                              have he : (s6.toList == s7.toList) = true := str_eq (by rw [HS6.out, HS7.out, HZ.out, hye, List.append_nil])
                              have hz2 : ((n2 : Int) == 0) = true := by rw [beq_iff_eq]; omega
                              clear hn20 hye
                              go_wp2
                              go_ret
                              exact ⟨rfl, hBe⟩
                            · have hz2 : ((n2 : Int) == 0) = false := by rw [beq_eq_false_iff_ne]; omega
                              have hxe : xs ≠ [] := fun e => hn0 (by rw [← HN.out, e]; rfl)
                              have hye : ys ≠ [] := fun e => hn20 (by rw [← HN2.out, e]; rfl)
                              have he : (s6.toList == (s7 ++ ⟨#[44]⟩ ++ s8).toList) = true := str_eq (by
                                rw [HS6.out, HZ.out, joined_append xs ys hxe hye, ByteArray.data_append, ByteArray.data_append, Array.toList_append, Array.toList_append, HS7.out, HS8.out])
                              have h7 : s7.size ≤ 4194304 := by
                                have h1 := joined_length xs
                                have h2 := HTT.out
                                have h3 := congrArg List.length HS7.out
                                rw [HN.out] at h1
                                simp at h3
                                omega
                              have h8 : s8.size ≤ 4194304 := by
                                have h1 := joined_length ys
                                have h2 := HTT.out
                                have h3 := congrArg List.length HS8.out
                                rw [HN2.out] at h1
                                simp at h3
                                omega
                              go_wp2
                              go_ret
                              exact ⟨rfl, hBe⟩
end Go.Proofs.Qxb6602936a
