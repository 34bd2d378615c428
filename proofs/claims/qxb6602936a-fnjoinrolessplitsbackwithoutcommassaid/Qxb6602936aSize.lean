/-
  THE BOUNDS ON LENGTHS: zzBytes.., zzStoreB1SizeOK.
-/
import Derived.Test.Qxb6602936aStrs
namespace Go.Proofs.Qxb6602936a
open Go.RowKit

/-- All bytes of the strings. -/
def tot (xs : List ByteArray) : Nat := (xs.map (·.size)).sum
theorem tot_step (xs : List ByteArray) (k : Nat) (h : k < xs.length) : tot (xs.take (k + 1)) = tot (xs.take k) + (xs.getD k ByteArray.empty).size := by
  unfold tot
  rw [List.take_succ_eq_append_getElem h, List.map_append, List.sum_append]
  simp [List.getD, h]
theorem tot_all (xs : List ByteArray) (k : Nat) (h : xs.length ≤ k) : tot (xs.take k) = tot xs := by rw [List.take_of_length_le h]

/-- It answers a bool; where that is true, P holds. -/
def YesNo (e : Ending) (P : Prop) : Prop := ∃ b : Bool, e = .returned (.bool b) ∧ (b = true → P)

set_option maxHeartbeats 400000 in
theorem size_ok (a : Option Addr) (c n : Nat) (xs : List ByteArray) (hn : xs.length = n) (hm : n ≤ maxLen) (w : World) (h : Has w a xs) :
    Calls Try.prog 7 #[.slice a n c] w fun e w' => YesNo e (n ≤ 65536 ∧ tot xs + 16 * n ≤ 1048576) ∧ w' = w := by
  unfold maxLen at hm
  have HH := Lib.hid h
  have HN := Lib.hid hn
  clear h hn
  by_cases hbig : 65536 < n
  · go_enter Try.func7, Try.ntmps7
    go_wp2
    go_ret
    exact ⟨⟨false, rfl, fun h => (by cases h)⟩, rfl⟩
  · go_enter Try.func7, Try.ntmps7
    go_wp2
    go_loop [3, 4] (fun z i => ∃ k t : Nat, k ≤ n ∧ t ≤ 1048576 ∧ Hid (t = tot (xs.take k) + 16 * n) ∧ z = .int .i64 (t : Int) ∧ i = .int .i64 (k : Int)) (fun _ i => n - (intOf i).toNat)
    case atStart => exact ⟨0, 16 * n, by omega, by omega, by show _ = _; simp [tot], by go_num, rfl⟩
    case round =>
      obtain ⟨k, t, hk, ht, HT, rfl, rfl⟩ := hrel
      by_cases hlt : k < n
      · obtain ⟨b, o, hx, hb, hc⟩ := HH.out k (by rw [HN.out]; exact hlt)
        subst hx
        obtain ⟨x, hx⟩ : ∃ x, x = xs.getD k ByteArray.empty := ⟨_, rfl⟩
        rw [← hx] at hc
        have HX := Lib.hid hx
        clear hx
        by_cases hx1 : x.size ≤ 1048576
        · by_cases hx2 : t + x.size ≤ 1048576
          · go_wp2
            go_round
            case rel =>
              refine ⟨k + 1, t + x.size, by omega, hx2, ?_, by go_num, by go_num⟩
              show _ = _
              rw [tot_step xs k (by rw [HN.out]; exact hlt), ← HX.out, HT.out]
              omega
            case measure => simp [intOf]; omega
          · go_wp2
            go_ret
            exact ⟨⟨false, rfl, fun h => (by cases h)⟩, rfl⟩
        · go_wp2
          go_ret
          exact ⟨⟨false, rfl, fun h => (by cases h)⟩, rfl⟩
      · go_wp2
        go_ret
        refine ⟨⟨true, rfl, fun _ => ⟨by omega, ?_⟩⟩, rfl⟩
        have := HT.out
        rw [tot_all xs k (by rw [HN.out]; omega)] at this
        omega

set_option maxHeartbeats 400000 in
theorem bytes6 (a : Option Addr) (c n : Nat) (xs : List ByteArray) (hn : xs.length = n) (hm : n ≤ maxLen) (w : World) (h : Has w a xs) :
    Calls Try.prog 6 #[.slice a n c] w fun e w' => YesNo e True ∧ w' = w := by
  unfold maxLen at hm
  have HH := Lib.hid h
  have HN := Lib.hid hn
  clear h hn
  by_cases hbig : 1048576 < n
  · go_enter Try.func6, Try.ntmps6
    go_wp2
    go_ret
    exact ⟨⟨false, rfl, fun h => (by cases h)⟩, rfl⟩
  · go_enter Try.func6, Try.ntmps6
    go_wp2
    go_loop [3, 4] (fun z i => ∃ k t : Nat, k ≤ n ∧ t ≤ 1048576 ∧ z = .int .i64 (t : Int) ∧ i = .int .i64 (k : Int)) (fun _ i => n - (intOf i).toNat)
    case atStart => exact ⟨0, n, by omega, by omega, by go_num, rfl⟩
    case round =>
      obtain ⟨k, t, hk, ht, rfl, rfl⟩ := hrel
      by_cases hlt : k < n
      · obtain ⟨b, o, hx, hb, hc⟩ := HH.out k (by rw [HN.out]; exact hlt)
        subst hx
        generalize xs.getD k ByteArray.empty = x at hc
        by_cases hx1 : x.size ≤ 1048576
        · by_cases hx2 : t + x.size ≤ 1048576
          · go_wp2
            go_round
            case rel => exact ⟨k + 1, t + x.size, by omega, hx2, by go_num, by go_num⟩
            case measure => simp [intOf]; omega
          · go_wp2
            go_ret
            exact ⟨⟨false, rfl, fun h => (by cases h)⟩, rfl⟩
        · go_wp2
          go_ret
          exact ⟨⟨false, rfl, fun h => (by cases h)⟩, rfl⟩
      · go_wp2
        go_ret
        exact ⟨⟨true, rfl, fun _ => trivial⟩, rfl⟩

set_option maxHeartbeats 400000 in
theorem bytes11 (a : Option Addr) (c n : Nat) (xs : List ByteArray) (hn : xs.length = n) (hm : n ≤ maxLen) (w : World) (h : Has w a xs) :
    Calls Try.prog 11 #[.slice a n c] w fun e w' => YesNo e True ∧ w' = w := by
  unfold maxLen at hm
  have HH := Lib.hid h
  have HN := Lib.hid hn
  clear h hn
  by_cases hbig : 1048576 < n
  · go_enter Try.func11, Try.ntmps11
    go_wp2
    go_ret
    exact ⟨⟨false, rfl, fun h => (by cases h)⟩, rfl⟩
  · go_enter Try.func11, Try.ntmps11
    go_wp2
    go_loop [3, 4] (fun z i => ∃ k t : Nat, k ≤ n ∧ t ≤ 1048576 ∧ z = .int .i64 (t : Int) ∧ i = .int .i64 (k : Int)) (fun _ i => n - (intOf i).toNat)
    case atStart => exact ⟨0, n, by omega, by omega, by go_num, rfl⟩
    case round =>
      obtain ⟨k, t, hk, ht, rfl, rfl⟩ := hrel
      by_cases hlt : k < n
      · obtain ⟨b, o, hx, hb, hc⟩ := HH.out k (by rw [HN.out]; exact hlt)
        subst hx
        generalize xs.getD k ByteArray.empty = x at hc
        by_cases hx1 : x.size ≤ 1048576
        · by_cases hx2 : t + x.size ≤ 1048576
          · go_wp2
            go_round
            case rel => exact ⟨k + 1, t + x.size, by omega, hx2, by go_num, by go_num⟩
            case measure => simp [intOf]; omega
          · go_wp2
            go_ret
            exact ⟨⟨false, rfl, fun h => (by cases h)⟩, rfl⟩
        · go_wp2
          go_ret
          exact ⟨⟨false, rfl, fun h => (by cases h)⟩, rfl⟩
      · go_wp2
        go_ret
        exact ⟨⟨true, rfl, fun _ => trivial⟩, rfl⟩


set_option maxHeartbeats 800000 in
theorem bytes12 (a a2 : Option Addr) (c n c2 n2 : Nat) (xs ys : List ByteArray) (hn : xs.length = n) (hm : n ≤ maxLen) (hn2 : ys.length = n2) (hm2 : n2 ≤ maxLen) (w : World) (h : Has w a xs) (h2 : Has w a2 ys) :
    Calls Try.prog 12 #[.slice a n c, .slice a2 n2 c2] w fun e w' => YesNo e True ∧ w' = w := by
  unfold maxLen at hm hm2
  have HH := Lib.hid h
  have HN := Lib.hid hn
  have HH2 := Lib.hid h2
  have HN2 := Lib.hid hn2
  clear h hn h2 hn2
  by_cases hbig : 1048576 < n
  · go_enter Try.func12, Try.ntmps12
    go_wp2
    go_ret
    exact ⟨⟨false, rfl, fun h => (by cases h)⟩, rfl⟩
  · go_enter Try.func12, Try.ntmps12
    go_wp2
    go_loop [5, 6] (fun z i => ∃ k t : Nat, k ≤ n ∧ t ≤ 1048576 ∧ z = .int .i64 (t : Int) ∧ i = .int .i64 (k : Int)) (fun _ i => n - (intOf i).toNat)
    case atStart => exact ⟨0, n, by omega, by omega, by go_num, rfl⟩
    case round =>
      obtain ⟨k, t, hk, ht, rfl, rfl⟩ := hrel
      by_cases hlt : k < n
      · obtain ⟨b, o, hx, hb, hc⟩ := HH.out k (by rw [HN.out]; exact hlt)
        subst hx
        generalize xs.getD k ByteArray.empty = x at hc
        by_cases hx1 : x.size ≤ 1048576
        · by_cases hx2 : t + x.size ≤ 1048576
          · go_wp2
            go_round
            case rel => exact ⟨k + 1, t + x.size, by omega, hx2, by go_num, by go_num⟩
            case measure => simp [intOf]; omega
          · go_wp2
            go_ret
            exact ⟨⟨false, rfl, fun h => (by cases h)⟩, rfl⟩
        · go_wp2
          go_ret
          exact ⟨⟨false, rfl, fun h => (by cases h)⟩, rfl⟩
      · by_cases hbig2 : 1048576 < n2
        · go_wp2
          go_ret
          exact ⟨⟨false, rfl, fun h => (by cases h)⟩, rfl⟩
        · by_cases hsum : 1048576 < t + n2
          · go_wp2
            go_ret
            exact ⟨⟨false, rfl, fun h => (by cases h)⟩, rfl⟩
          · go_wp2
            go_loop [5, 7] (fun z i => ∃ k t : Nat, k ≤ n2 ∧ t ≤ 1048576 ∧ z = .int .i64 (t : Int) ∧ i = .int .i64 (k : Int)) (fun _ i => n2 - (intOf i).toNat)
            case atStart => exact ⟨0, t + n2, by omega, by omega, by go_num, rfl⟩
            case round =>
              obtain ⟨q, t2, hq, ht2, rfl, rfl⟩ := hrel
              by_cases hlt2 : q < n2
              · obtain ⟨b, o, hx, hb, hc⟩ := HH2.out q (by rw [HN2.out]; exact hlt2)
                subst hx
                generalize ys.getD q ByteArray.empty = x at hc
                by_cases hx1 : x.size ≤ 1048576
                · by_cases hx2 : t2 + x.size ≤ 1048576
                  · go_wp2
                    go_round
                    case rel => exact ⟨q + 1, t2 + x.size, by omega, hx2, by go_num, by go_num⟩
                    case measure => simp [intOf]; omega
                  · go_wp2
                    go_ret
                    exact ⟨⟨false, rfl, fun h => (by cases h)⟩, rfl⟩
                · go_wp2
                  go_ret
                  exact ⟨⟨false, rfl, fun h => (by cases h)⟩, rfl⟩
              · go_wp2
                go_ret
                exact ⟨⟨true, rfl, fun _ => trivial⟩, rfl⟩

end Go.Proofs.Qxb6602936a
