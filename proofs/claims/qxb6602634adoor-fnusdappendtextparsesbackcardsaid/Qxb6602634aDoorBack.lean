/-
  THE LAW FnUSDAppendTextParsesBack, walked.
-/
import Derived.Test.Qxb6602634aDoorExact
import Derived.Test.Qxb6602634aDoorParse
namespace Go.Proofs.Qxb6602634aDoor
open Go.RowKit Go.Lib

theorem parse_any (d : Int) (h1 : -9223372036854775808 ≤ d) (h2 : d ≤ 9223372036854775807) (g o cap : Nat) (w : World)
    (hc : ∀ j, j < (usdText d).length → w.cell? ⟨g, o + j, none⟩ = some (.int .u8 ((fun j => (((usdText d).getD j 0).toNat : Int)) j))) :
    Calls Tryd.prog 10 #[.slice (some ⟨g, o, none⟩) (usdText d).length cap] w fun e w' => e = .returned (.tuple #[.int .i64 d, .bool true]) ∧ w' = w := by
  by_cases hd : d < 0
  · obtain ⟨m, rfl⟩ : ∃ m : Nat, d = -(m : Int) := ⟨d.natAbs, by omega⟩
    rw [usdText, if_pos hd, Int.natAbs_neg, Int.natAbs_natCast] at hc ⊢
    exact parse_neg m _ _ g o cap _ (by omega) (by omega) rfl (txt_at m (by omega) [45]) w hc
  · obtain ⟨m, rfl⟩ : ∃ m : Nat, d = (m : Int) := ⟨d.natAbs, by omega⟩
    rw [usdText, if_neg hd, Int.natAbs_natCast] at hc ⊢
    exact parse_pos m _ _ g o cap _ (by omega) (txt_at m (by omega) []) w hc

theorem sign_any (d : Int) (h1 : -9223372036854775808 ≤ d) (h2 : d ≤ 9223372036854775807) : ((fun j => (((usdText d).getD j 0).toNat : Int)) 0 == 45) = decide (d < 0) := by
  by_cases hd : d < 0
  · rw [usdText, if_pos hd, decide_eq_true hd]
    rfl
  · have X := txt_at d.natAbs (by omega) []
    have h0 := X.ints 0 (by have := X.k1; omega)
    have hr := dg_range d.natAbs (Lib.nDigits (d.natAbs / 1000000000) + 8 - 0)
    rw [usdText, if_neg hd, decide_eq_false hd, beq_eq_false_iff_ne]
    simp only [List.length_nil, Nat.zero_add, List.nil_append] at h0
    show (((usd d.natAbs).getD 0 0).toNat : Int) ≠ 45
    rw [h0]
    omega

theorem own_open2 {w : World} {b n : Nat} {v : Value} {xs : List Value} (h : w.ownsRow b 5 1 v n xs) (hn : 1 ≤ n) :
    ∃ g cap, v = .slice (some ⟨g, 0, none⟩) n cap ∧ b ≤ g ∧ g < w.heap.size ∧ (∀ j u, xs[j]? = some u → w.cell? ⟨g, j, none⟩ = some u) ∧ n ≤ cap := by
  rcases h.2 with ⟨_, h0⟩ | ⟨g, cap, cur, rfl, h2, h3, h4, _⟩
  · omega
  · refine ⟨g, cap, rfl, h2, (h.lt g rfl).2, ?_, h4⟩
    intro j u hu
    have := h.cells (g := g) rfl j u hu
    rwa [Lib.add_plain, Nat.zero_add] at this

def CellsB (w : World) (g1 g2 n T : Nat) (z t : Nat → Int) : Prop :=
  (∀ j, j < n → w.cell? ⟨g1, j, none⟩ = some (.int .u8 (z j))) ∧ (∀ j, j < n → w.cell? ⟨g2, j, none⟩ = some (.int .u8 (z j))) ∧ (∀ j, j < T → w.cell? ⟨g2, n + j, none⟩ = some (.int .u8 (t j)))
theorem CellsB.drewN {w : World} {g1 g2 n T : Nat} {z t : Nat → Int} (h : CellsB w g1 g2 n T z t) (q : Nat) : CellsB (w.drewN q) g1 g2 n T z t := by
  refine ⟨?_, ?_, ?_⟩
  · intro j hj; rw [World.cell?_drewN]; exact h.1 j hj
  · intro j hj; rw [World.cell?_drewN]; exact h.2.1 j hj
  · intro j hj; rw [World.cell?_drewN]; exact h.2.2 j hj
theorem cells_of2 {w1 w2 : World} {g1 g2 n : Nat} {zs : List Int} {tx : List UInt8} (hz : zs.length = n)
    (o1 : ∀ j u, (zs.map (Value.int .u8))[j]? = some u → w1.cell? ⟨g1, j, none⟩ = some u) (l1 : g1 < w1.heap.size)
    (o2 : ∀ j u, (zs.map (Value.int .u8) ++ Lib.byteCells tx)[j]? = some u → w2.cell? ⟨g2, j, none⟩ = some u) (hb2 : Below w1.heap.size w1 w2) :
    CellsB w2 g1 g2 n tx.length (fun j => zs.getD j 0) (fun j => ((tx.getD j 0).toNat : Int)) := by
  subst hz
  have ez : ∀ j, j < zs.length → (zs.map (Value.int .u8))[j]? = some (.int .u8 (zs.getD j 0)) := by
    intro j hj
    rw [List.getElem?_map, List.getElem?_eq_getElem hj]
    simp [List.getD, hj]
  have et : ∀ j, j < tx.length → (Lib.byteCells tx)[j]? = some (.int .u8 ((tx.getD j 0).toNat : Int)) := by
    intro j hj
    rw [byte_at tx j hj]
    simp [List.getD, hj]
  refine ⟨?_, ?_, ?_⟩
  · intro j hj
    rw [hb2.cell (p := ⟨g1, j, none⟩) l1]
    exact o1 j _ (ez j hj)
  · intro j hj
    exact o2 j _ (by rw [List.getElem?_append_left (by simpa using hj)]; exact ez j hj)
  · intro j hj
    exact o2 _ _ (by rw [List.getElem?_append_right (by simp)]; simpa using et j hj)

set_option maxHeartbeats 1000000 in
theorem back_core (d : Int) (h1 : -9223372036854775808 ≤ d) (h2 : d ≤ 9223372036854775807) (x : Addr) (n cap : Nat) (zs : List Int) (hz : zs.length = n) (hn : n ≤ 1048576) (w : World)
    (c1 : Calls Tryd.prog 6 #[.slice (some x) n cap] w fun e w' => e = .returned (.slice (some ⟨w.heap.size, 0, none⟩) n n) ∧ w'.ownsRow w.heap.size 5 1 (.slice (some ⟨w.heap.size, 0, none⟩) n n) n (zs.map (Value.int .u8)) ∧ Below w.heap.size w w')
    (htab : Lib.TabIs Tryd.prog w Tryd.pow10Name .u64 Lib.pow10Tab) :
    Calls Tryd.prog 4 #[.int .i64 d, .slice (some x) n cap] w fun e w' => e = .returned (.bool true) ∧ Below w.heap.size w w' := by
  obtain ⟨ht1, ht2⟩ := usd_long d h1 h2
  obtain ⟨tx, htx⟩ : ∃ tx, tx = usdText d := ⟨_, rfl⟩
  have HTAB := Lib.hid htab
  clear htab
  go_enter Tryd.func4, Tryd.ntmps4
  go_wp2_with fail
  refine (bytes9 d _ n cap hn _).mono ?_
  rintro e w' ⟨rfl, rfl⟩
  go_wp2_with fail
  refine c1.mono ?_
  rintro e w1 ⟨rfl, hown1, hb1⟩
  have c2 := zz_app w'.heap.size n d h1 h2 _ _ w1 hown1 (.inr ⟨_, rfl⟩) hb1.size (by omega) ((tabBelow_of_tabIs HTAB.out) w1 hb1)
  have HO1 := Lib.hid hown1
  clear c1 hown1
  go_wp2_with fail
  refine c2.mono ?_
  rintro e w2 ⟨v2, rfl, hown2, hb2⟩
  have HO2 := Lib.hid hown2
  clear c2 hown2
  have P := fun g o cap w hc => parse_any d h1 h2 g o cap w hc
  have S := sign_any d h1 h2
  rw [← htx] at ht1 ht2 P S
  have o2 := HO2.out
  rw [← htx] at o2
  clear HO2 htx HTAB
  obtain ⟨g2, cap2, rfl, _, l2, k2, hcap2⟩ := own_open2 o2 (by omega)
  have o1 := HO1.out.cells (g := w'.heap.size) rfl
  have C := cells_of2 hz (fun j u hu => by have := o1 j u hu; rwa [Lib.add_plain, Nat.zero_add] at this) (HO1.out.lt _ rfl).2 k2 hb2
  clear o1 o2 k2 HO1
  generalize (fun j => zs.getD j 0) = z at C
  generalize ht : (fun j => ((tx.getD j 0).toNat : Int)) = t at C P S
  generalize tx.length = T at ht1 ht2 C P hcap2 ⊢
  clear ht
  have HC := Lib.hid C
  have HP := Lib.hid P
  have HS := Lib.hid S
  have hB : Below w'.heap.size w' w2 := hb1.trans (hb2.mono hb1.size)
  clear C P S hb2 l2 hz hb1
  go_wp2
  go_loopw [6] (fun i wr => ∃ k : Nat, k ≤ n ∧ i = .int .i64 (k : Int) ∧ Hid (CellsB wr w'.heap.size g2 n T z t) ∧ Below w'.heap.size w' wr) (fun i _ => n - (RowKit.intOf i).toNat)
  case atStart => exact ⟨0, by omega, rfl, HC.out, hB⟩
  case round =>
    clear HC hB
    obtain ⟨k, hk, rfl, HC, hB⟩ := hrel
    by_cases hlt : k < n
    · have ca := HC.out.1 k hlt
      have cb := HC.out.2.1 k hlt
      have hlt' : (k : Int) < (n : Int) := by omega
      have hlt2 : (k : Int) < (n : Int) + (T : Int) := by omega
      go_wp2
      go_quiet (fail)
      go_wp2
      go_roundw
      case rel => exact ⟨k + 1, by omega, by go_num, HC.out.drewN _, below_drewN hB _⟩
      case measure => simp [RowKit.intOf]; omega
    · have c0 := HC.out.2.2 0 (by omega)
      rw [Nat.add_zero] at c0
      have hT0 : (0 : Int) < (T : Int) := by omega
      go_wp2_with fail
      refine (HP.out g2 n _ _ HC.out.2.2).mono ?_
      rintro e w4 ⟨rfl, rfl⟩
      have hs := HS.out
      go_wp2
      go_ret
      exact ⟨by simp, hB⟩
theorem cells_of1 {w2 : World} {g2 : Nat} {tx : List UInt8}
    (o2 : ∀ j u, (([] : List Value) ++ Lib.byteCells tx)[j]? = some u → w2.cell? ⟨g2, j, none⟩ = some u) :
    ∀ j, j < tx.length → w2.cell? ⟨g2, 0 + j, none⟩ = some (.int .u8 ((fun j => ((tx.getD j 0).toNat : Int)) j)) := by
  intro j hj
  rw [Nat.zero_add]
  refine o2 j _ ?_
  rw [List.nil_append, byte_at tx j hj]
  simp [List.getD, hj]

set_option maxHeartbeats 1000000 in
theorem back_nil (d : Int) (h1 : -9223372036854775808 ≤ d) (h2 : d ≤ 9223372036854775807) (w : World)
    (htab : Lib.TabIs Tryd.prog w Tryd.pow10Name .u64 Lib.pow10Tab) :
    Calls Tryd.prog 4 #[.int .i64 d, .slice none 0 0] w fun e w' => e = .returned (.bool true) ∧ Below w.heap.size w w' := by
  obtain ⟨ht1, ht2⟩ := usd_long d h1 h2
  obtain ⟨tx, htx⟩ : ∃ tx, tx = usdText d := ⟨_, rfl⟩
  have c1 := clone_nil w
  have HTAB := Lib.hid htab
  clear htab
  go_enter Tryd.func4, Tryd.ntmps4
  go_wp2_with fail
  refine (bytes9 d _ 0 0 (by omega) _).mono ?_
  rintro e w' ⟨rfl, rfl⟩
  go_wp2_with fail
  refine c1.mono ?_
  rintro e w1 ⟨rfl, rfl⟩
  have c2 := zz_app w1.heap.size 0 d h1 h2 _ _ w1 (World.ownsRow_nil _ _ _ _) (.inl rfl) (Nat.le_refl _) (by omega) HTAB.out
  clear c1
  go_wp2_with fail
  refine c2.mono ?_
  rintro e w2 ⟨v2, rfl, hown2, hb2⟩
  have HO2 := Lib.hid hown2
  clear c2 hown2
  have P := fun g o cap w hc => parse_any d h1 h2 g o cap w hc
  have S := sign_any d h1 h2
  rw [← htx] at ht1 ht2 P S
  have o2 := HO2.out
  rw [← htx] at o2
  clear HO2 htx HTAB
  obtain ⟨g2, cap2, rfl, _, l2, k2, hcap2⟩ := own_open2 o2 (by omega)
  have C := cells_of1 k2
  clear o2 k2
  generalize ht : (fun j => ((tx.getD j 0).toNat : Int)) = t at C P S
  generalize tx.length = T at ht1 ht2 C P hcap2 ⊢
  clear ht
  have HC := Lib.hid C
  have HP := Lib.hid P
  have HS := Lib.hid S
  have hB : Below w1.heap.size w1 w2 := hb2
  clear C P S hb2 l2
  go_wp2
  go_loopw [6] (fun i wr => i = .int .i64 0 ∧ Hid (∀ j, j < T → wr.cell? ⟨g2, 0 + j, none⟩ = some (.int .u8 (t j))) ∧ Below w1.heap.size w1 wr) (fun _ _ => 0)
  case atStart => exact ⟨rfl, HC.out, hB⟩
  case round =>
    clear HC hB
    obtain ⟨rfl, HC, hB⟩ := hrel
    have c0 := HC.out 0 (by omega)
    rw [Nat.add_zero] at c0
    have hT0 : (0 : Int) < (T : Int) := by omega
    go_wp2_with fail
    refine (HP.out g2 0 _ _ HC.out).mono ?_
    rintro e w4 ⟨rfl, rfl⟩
    have hs := HS.out
    go_wp2
    go_ret
    exact ⟨by simp, hB⟩

set_option maxHeartbeats 400000 in
theorem back_long (d : Int) (a : Option Addr) (n cap : Nat) (hn : 1048576 < n) (hm : n ≤ maxLen) (w : World) :
    Calls Tryd.prog 4 #[.int .i64 d, .slice a n cap] w fun e w' => e = .returned (.bool true) ∧ Below w.heap.size w w' := by
  go_enter Tryd.func4, Tryd.ntmps4
  go_wp2_with fail
  refine (bytes9_no d a n cap hn hm _).mono ?_
  rintro e w' ⟨rfl, rfl⟩
  go_wp2
  go_ret
  exact ⟨rfl, Below.refl _ _⟩

theorem back_some (d : Int) (h1 : -9223372036854775808 ≤ d) (h2 : d ≤ 9223372036854775807) (b off n cap : Nat) (zs : List Int) (hz : zs.length = n) (hn : n ≤ 1048576) (w : World) (hc : ∀ i, i < n → w.cell? ⟨b, off + i, none⟩ = some (.int .u8 (zs.getD i 0))) (hb : b < w.heap.size)
    (htab : Lib.TabIs Tryd.prog w Tryd.pow10Name .u64 Lib.pow10Tab) :
    Calls Tryd.prog 4 #[.int .i64 d, .slice (some ⟨b, off, none⟩) n cap] w fun e w' => e = .returned (.bool true) ∧ Below w.heap.size w w' :=
  back_core d h1 h2 _ n cap zs hz hn w (clone_some b off n cap zs hz hn w hc hb) htab
theorem back_empty (d : Int) (h1 : -9223372036854775808 ≤ d) (h2 : d ≤ 9223372036854775807) (x : Addr) (cap : Nat) (w : World)
    (htab : Lib.TabIs Tryd.prog w Tryd.pow10Name .u64 Lib.pow10Tab) :
    Calls Tryd.prog 4 #[.int .i64 d, .slice (some x) 0 cap] w fun e w' => e = .returned (.bool true) ∧ Below w.heap.size w w' :=
  back_core d h1 h2 x 0 cap [] rfl (by omega) w (clone_empty x cap w) htab
end Go.Proofs.Qxb6602634aDoor
