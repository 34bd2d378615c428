/-
  THE LAW FnUSDAppendTextExact, walked.
-/
import Derived.Test.Qxb6602634aDoorUsd
import Derived.Deep.QuietTactic
import Derived.BigQuiet
namespace Go.Proofs.Qxb6602634aDoor
open Go.RowKit Go.Lib

/-- What is owned lies in cells. -/
theorem own_open {w : World} {b n : Nat} {v : Value} {xs : List Value} (h : w.ownsRow b 5 1 v n xs) (hn : 1 ≤ n) :
    ∃ g cap, v = .slice (some ⟨g, 0, none⟩) n cap ∧ b ≤ g ∧ g < w.heap.size ∧ ∀ j u, xs[j]? = some u → w.cell? ⟨g, j, none⟩ = some u := by
  rcases h.2 with ⟨_, h0⟩ | ⟨g, cap, cur, rfl, h2, h3, _⟩
  · omega
  · refine ⟨g, cap, rfl, h2, (h.lt g rfl).2, ?_⟩
    intro j u hu
    have := h.cells (g := g) rfl j u hu
    rwa [Lib.add_plain, Nat.zero_add] at this

theorem byte_at (l : List UInt8) (j : Nat) (h : j < l.length) : (Lib.byteCells l)[j]? = some (.int .u8 (l[j].toNat : Int)) := by
  simp [Lib.byteCells, h]
theorem usd_long (d : Int) (h1 : -9223372036854775808 ≤ d) (h2 : d ≤ 9223372036854775807) : 11 ≤ (usdText d).length ∧ (usdText d).length ≤ 31 := by
  have hq : d.natAbs / 1000000000 < 18446744073709551616 := by omega
  have := dec_len _ hq
  have e : (usd d.natAbs).length = (Lib.decDigits (d.natAbs / 1000000000)).length + 10 := by rw [usd, List.length_append, List.length_cons, frac9_length]
  unfold usdText
  split
  · rw [List.length_cons, e]; omega
  · rw [e]; omega

/-- The cells that the law's loops read. -/
def Cells3 (w : World) (g1 g2 g3 n T : Nat) (z t : Nat → Int) : Prop :=
  (∀ j, j < n → w.cell? ⟨g1, j, none⟩ = some (.int .u8 (z j))) ∧ (∀ j, j < n → w.cell? ⟨g2, j, none⟩ = some (.int .u8 (z j))) ∧
  (∀ j, j < T → w.cell? ⟨g2, n + j, none⟩ = some (.int .u8 (t j))) ∧ (∀ j, j < T → w.cell? ⟨g3, j, none⟩ = some (.int .u8 (t j)))

theorem Cells3.drewN {w : World} {g1 g2 g3 n T : Nat} {z t : Nat → Int} (h : Cells3 w g1 g2 g3 n T z t) (q : Nat) : Cells3 (w.drewN q) g1 g2 g3 n T z t := by
  refine ⟨?_, ?_, ?_, ?_⟩
  · intro j hj; rw [World.cell?_drewN]; exact h.1 j hj
  · intro j hj; rw [World.cell?_drewN]; exact h.2.1 j hj
  · intro j hj; rw [World.cell?_drewN]; exact h.2.2.1 j hj
  · intro j hj; rw [World.cell?_drewN]; exact h.2.2.2 j hj

theorem cells3_of {w1 w2 w3 : World} {g1 g2 g3 n : Nat} {zs : List Int} {tx : List UInt8} (hz : zs.length = n)
    (o1 : ∀ j u, (zs.map (Value.int .u8))[j]? = some u → w1.cell? ⟨g1, j, none⟩ = some u) (l1 : g1 < w1.heap.size)
    (o2 : ∀ j u, (zs.map (Value.int .u8) ++ Lib.byteCells tx)[j]? = some u → w2.cell? ⟨g2, j, none⟩ = some u) (l2 : g2 < w2.heap.size)
    (o3 : ∀ j u, (Lib.byteCells tx)[j]? = some u → w3.cell? ⟨g3, j, none⟩ = some u) (hb2 : Below w1.heap.size w1 w2) (hb3 : Below w2.heap.size w2 w3) :
    Cells3 w3 g1 g2 g3 n tx.length (fun j => zs.getD j 0) (fun j => ((tx.getD j 0).toNat : Int)) := by
  have hs := hb2.size
  subst hz
  have ez : ∀ j, j < zs.length → (zs.map (Value.int .u8))[j]? = some (.int .u8 (zs.getD j 0)) := by
    intro j hj
    rw [List.getElem?_map, List.getElem?_eq_getElem hj]
    simp [List.getD, hj]
  have et : ∀ j, j < tx.length → (Lib.byteCells tx)[j]? = some (.int .u8 ((tx.getD j 0).toNat : Int)) := by
    intro j hj
    rw [byte_at tx j hj]
    simp [List.getD, hj]
  refine ⟨?_, ?_, ?_, ?_⟩
  · intro j hj
    rw [hb3.cell (p := ⟨g1, j, none⟩) (by simp; omega), hb2.cell (p := ⟨g1, j, none⟩) l1]
    exact o1 j _ (ez j hj)
  · intro j hj
    rw [hb3.cell (p := ⟨g2, j, none⟩) l2]
    exact o2 j _ (by rw [List.getElem?_append_left (by simpa using hj)]; exact ez j hj)
  · intro j hj
    rw [hb3.cell (p := ⟨g2, zs.length + j, none⟩) l2]
    exact o2 _ _ (by rw [List.getElem?_append_right (by simp)]; simpa using et j hj)
  · intro j hj
    exact o3 j _ (et j hj)

set_option maxHeartbeats 1000000 in
theorem exact_core (d : Int) (h1 : -9223372036854775808 ≤ d) (h2 : d ≤ 9223372036854775807) (x : Addr) (n cap : Nat) (zs : List Int) (hz : zs.length = n) (hn : n ≤ 1048576) (w : World)
    (c1 : Calls Tryd.prog 6 #[.slice (some x) n cap] w fun e w' => e = .returned (.slice (some ⟨w.heap.size, 0, none⟩) n n) ∧ w'.ownsRow w.heap.size 5 1 (.slice (some ⟨w.heap.size, 0, none⟩) n n) n (zs.map (Value.int .u8)) ∧ Below w.heap.size w w')
    (htab : Lib.TabIs Tryd.prog w Tryd.pow10Name .u64 Lib.pow10Tab) :
    Calls Tryd.prog 3 #[.int .i64 d, .slice (some x) n cap] w fun e w' => e = .returned (.bool true) ∧ Below w.heap.size w w' := by
  obtain ⟨ht1, ht2⟩ := usd_long d h1 h2
  obtain ⟨tx, htx⟩ : ∃ tx, tx = usdText d := ⟨_, rfl⟩
  have HTAB := Lib.hid htab
  clear htab
  go_enter Tryd.func3, Tryd.ntmps3
  go_wp2_with fail
  refine (bytes5 d _ n cap hn _).mono ?_
  rintro e w' ⟨rfl, rfl⟩
  go_wp2_with fail
  refine c1.mono ?_
  rintro e w1 ⟨rfl, hown1, hb1⟩
  have c2 := zz_app w'.heap.size n d h1 h2 _ _ w1 hown1 (.inr ⟨_, rfl⟩) hb1.size (by omega) ((tabBelow_of_tabIs HTAB.out) w1 hb1)
  have HO1 := Lib.hid hown1
  clear c1 hown1
  go_wp2_with fail
  refine c2.mono ?_
  rintro e w2 ⟨v2, rfl, hown2, hb2⟩
  have HO2 := Lib.hid hown2
  clear c2 hown2
  go_wp2_with fail
  refine (usd_any d h1 h2 _).mono ?_
  rintro e w3 ⟨v3, rfl, hown3, hb3⟩
  have HO3 := Lib.hid hown3
  clear hown3
  rw [← htx] at ht1 ht2
  have o2 := HO2.out
  have o3 := HO3.out
  rw [← htx] at o2 o3
  clear HO2 HO3 htx HTAB
  obtain ⟨g2, cap2, rfl, _, l2, k2⟩ := own_open o2 (by omega)
  obtain ⟨g3, cap3, rfl, _, l3, k3⟩ := own_open o3 (by omega)
  have o1 := HO1.out.cells (g := w'.heap.size) rfl
  have C3 := cells3_of hz (fun j u hu => by have := o1 j u hu; rwa [Lib.add_plain, Nat.zero_add] at this) (HO1.out.lt _ rfl).2 k2 l2 k3 hb2 hb3
  clear o1 o2 o3 k2 k3 HO1
  generalize (fun j => zs.getD j 0) = z at C3
  generalize (fun j => ((tx.getD j 0).toNat : Int)) = t at C3
  generalize tx.length = T at ht1 ht2 C3 ⊢
  have HC3 := Lib.hid C3
  have hB3 : Below w'.heap.size w' w3 := (hb1.trans (hb2.mono hb1.size)).trans (hb3.mono (Nat.le_trans hb1.size hb2.size))
  clear C3 hb2 hb3 l2 l3 hz hb1
  go_wp2
  go_loopw [7] (fun i wr => ∃ k : Nat, k ≤ n ∧ i = .int .i64 (k : Int) ∧ Hid (Cells3 wr w'.heap.size g2 g3 n T z t) ∧ Below w'.heap.size w' wr) (fun i _ => n - (RowKit.intOf i).toNat)
  case atStart => exact ⟨0, by omega, rfl, HC3.out, hB3⟩
  case round =>
    clear HC3 hB3
    obtain ⟨k, hk, rfl, HC, hB⟩ := hrel
    by_cases hlt : k < n
    · have ca := HC.out.1 k hlt
      have cb := HC.out.2.1 k hlt
      have hlt' : (k : Int) < (n : Int) := by omega
      have hlt2 : (k : Int) < (n : Int) + (T : Int) := by omega
      go_wp2
      go_quiet (fail)
      go_wp2
      go_roundw
      case rel => exact ⟨k + 1, by omega, by go_num, HC.out.drewN _, below_drewN hB _⟩
      case measure => simp [RowKit.intOf]; omega
    · go_wp2
      go_loopw [8] (fun i wx => ∃ k : Nat, k ≤ T ∧ i = .int .i64 (k : Int) ∧ Hid (Cells3 wx w'.heap.size g2 g3 n T z t) ∧ Below w'.heap.size w' wx) (fun i _ => T - (RowKit.intOf i).toNat)
      case atStart => exact ⟨0, by omega, rfl, HC.out, hB⟩
      case round =>
        clear HC hB
        obtain ⟨q, hq, rfl, HC, hB⟩ := hrel
        by_cases hql : q < T
        · have ca := HC.out.2.2.1 q hql
          have cb := HC.out.2.2.2 q hql
          have hql' : (q : Int) < (T : Int) := by omega
          have hql2 : (n : Int) + (q : Int) < (n : Int) + (T : Int) := by omega
          go_wp2
          go_quiet (fail)
          go_wp2
          go_roundw
          case rel => exact ⟨q + 1, by omega, by go_num, HC.out.drewN _, below_drewN hB _⟩
          case measure => simp [RowKit.intOf]; omega
        · go_wp2
          go_ret
          exact ⟨rfl, hB⟩
/-- The cells that the law's second loop reads where the slice that came in is nil. -/
def Cells2 (w : World) (g2 g3 T : Nat) (t : Nat → Int) : Prop :=
  (∀ j, j < T → w.cell? ⟨g2, j, none⟩ = some (.int .u8 (t j))) ∧ (∀ j, j < T → w.cell? ⟨g3, j, none⟩ = some (.int .u8 (t j)))
theorem Cells2.drewN {w : World} {g2 g3 T : Nat} {t : Nat → Int} (h : Cells2 w g2 g3 T t) (q : Nat) : Cells2 (w.drewN q) g2 g3 T t := by
  refine ⟨?_, ?_⟩
  · intro j hj; rw [World.cell?_drewN]; exact h.1 j hj
  · intro j hj; rw [World.cell?_drewN]; exact h.2 j hj
theorem cells3_nil {w2 w3 : World} {g2 g3 : Nat} {tx : List UInt8}
    (o2 : ∀ j u, (([] : List Value) ++ Lib.byteCells tx)[j]? = some u → w2.cell? ⟨g2, j, none⟩ = some u) (l2 : g2 < w2.heap.size)
    (o3 : ∀ j u, (Lib.byteCells tx)[j]? = some u → w3.cell? ⟨g3, j, none⟩ = some u) (hb3 : Below w2.heap.size w2 w3) :
    Cells2 w3 g2 g3 tx.length (fun j => ((tx.getD j 0).toNat : Int)) := by
  have et : ∀ j, j < tx.length → (Lib.byteCells tx)[j]? = some (.int .u8 ((tx.getD j 0).toNat : Int)) := by
    intro j hj
    rw [byte_at tx j hj]
    simp [List.getD, hj]
  refine ⟨?_, ?_⟩
  · intro j hj
    rw [hb3.cell (p := ⟨g2, j, none⟩) l2]
    exact o2 j _ (et j hj)
  · intro j hj
    exact o3 j _ (et j hj)

set_option maxHeartbeats 1000000 in
theorem exact_nil (d : Int) (h1 : -9223372036854775808 ≤ d) (h2 : d ≤ 9223372036854775807) (w : World)
    (htab : Lib.TabIs Tryd.prog w Tryd.pow10Name .u64 Lib.pow10Tab) :
    Calls Tryd.prog 3 #[.int .i64 d, .slice none 0 0] w fun e w' => e = .returned (.bool true) ∧ Below w.heap.size w w' := by
  obtain ⟨ht1, ht2⟩ := usd_long d h1 h2
  obtain ⟨tx, htx⟩ : ∃ tx, tx = usdText d := ⟨_, rfl⟩
  have c1 := clone_nil w
  have HTAB := Lib.hid htab
  clear htab
  go_enter Tryd.func3, Tryd.ntmps3
  go_wp2_with fail
  refine (bytes5 d _ 0 0 (by omega) _).mono ?_
  rintro e w' ⟨rfl, rfl⟩
  go_wp2_with fail
  refine c1.mono ?_
  rintro e w1 ⟨rfl, rfl⟩
  have c2 := zz_app w1.heap.size 0 d h1 h2 _ _ w1 (World.ownsRow_nil _ _ _ _) (.inl rfl) (Nat.le_refl _) (by omega) HTAB.out
  clear c1
  go_wp2_with fail
  refine c2.mono ?_
  rintro e w2 ⟨v2, rfl, hown2, hb2⟩
  have HO2 := Lib.hid hown2
  clear c2 hown2
  go_wp2_with fail
  refine (usd_any d h1 h2 _).mono ?_
  rintro e w3 ⟨v3, rfl, hown3, hb3⟩
  have HO3 := Lib.hid hown3
  clear hown3
  rw [← htx] at ht1 ht2
  have o2 := HO2.out
  have o3 := HO3.out
  rw [← htx] at o2 o3
  clear HO2 HO3 htx HTAB
  obtain ⟨g2, cap2, rfl, _, l2, k2⟩ := own_open o2 (by omega)
  obtain ⟨g3, cap3, rfl, _, l3, k3⟩ := own_open o3 (by omega)
  have C3 := cells3_nil k2 l2 k3 hb3
  clear o2 o3 k2 k3
  generalize (fun j => ((tx.getD j 0).toNat : Int)) = t at C3
  generalize tx.length = T at ht1 ht2 C3 ⊢
  have HC3 := Lib.hid C3
  have hB3 : Below w1.heap.size w1 w3 := hb2.trans (hb3.mono hb2.size)
  clear C3 hb2 hb3 l2 l3
  go_wp2
  go_loopw [7] (fun i wr => i = .int .i64 0 ∧ Hid (Cells2 wr g2 g3 T t) ∧ Below w1.heap.size w1 wr) (fun _ _ => 0)
  case atStart => exact ⟨rfl, HC3.out, hB3⟩
  case round =>
    clear HC3 hB3
    obtain ⟨rfl, HC, hB⟩ := hrel
    · go_wp2
      go_loopw [8] (fun i wx => ∃ k : Nat, k ≤ T ∧ i = .int .i64 (k : Int) ∧ Hid (Cells2 wx g2 g3 T t) ∧ Below w1.heap.size w1 wx) (fun i _ => T - (RowKit.intOf i).toNat)
      case atStart => exact ⟨0, by omega, rfl, HC.out, hB⟩
      case round =>
        clear HC hB
        obtain ⟨q, hq, rfl, HC, hB⟩ := hrel
        by_cases hql : q < T
        · have ca := HC.out.1 q hql
          have cb := HC.out.2 q hql
          have hql' : (q : Int) < (T : Int) := by omega
          go_wp2
          go_quiet (fail)
          go_wp2
          go_roundw
          case rel => exact ⟨q + 1, by omega, by go_num, HC.out.drewN _, below_drewN hB _⟩
          case measure => simp [RowKit.intOf]; omega
        · go_wp2
          go_ret
          exact ⟨rfl, hB⟩

set_option maxHeartbeats 400000 in
theorem exact_long (d : Int) (a : Option Addr) (n cap : Nat) (hn : 1048576 < n) (hm : n ≤ maxLen) (w : World) :
    Calls Tryd.prog 3 #[.int .i64 d, .slice a n cap] w fun e w' => e = .returned (.bool true) ∧ Below w.heap.size w w' := by
  go_enter Tryd.func3, Tryd.ntmps3
  go_wp2_with fail
  refine (bytes5_no d a n cap hn hm _).mono ?_
  rintro e w' ⟨rfl, rfl⟩
  go_wp2
  go_ret
  exact ⟨rfl, Below.refl _ _⟩

theorem exact_some (d : Int) (h1 : -9223372036854775808 ≤ d) (h2 : d ≤ 9223372036854775807) (b off n cap : Nat) (zs : List Int) (hz : zs.length = n) (hn : n ≤ 1048576) (w : World) (hc : ∀ i, i < n → w.cell? ⟨b, off + i, none⟩ = some (.int .u8 (zs.getD i 0))) (hb : b < w.heap.size)
    (htab : Lib.TabIs Tryd.prog w Tryd.pow10Name .u64 Lib.pow10Tab) :
    Calls Tryd.prog 3 #[.int .i64 d, .slice (some ⟨b, off, none⟩) n cap] w fun e w' => e = .returned (.bool true) ∧ Below w.heap.size w w' :=
  exact_core d h1 h2 _ n cap zs hz hn w (clone_some b off n cap zs hz hn w hc hb) htab
theorem exact_empty (d : Int) (h1 : -9223372036854775808 ≤ d) (h2 : d ≤ 9223372036854775807) (x : Addr) (cap : Nat) (w : World)
    (htab : Lib.TabIs Tryd.prog w Tryd.pow10Name .u64 Lib.pow10Tab) :
    Calls Tryd.prog 3 #[.int .i64 d, .slice (some x) 0 cap] w fun e w' => e = .returned (.bool true) ∧ Below w.heap.size w w' :=
  exact_core d h1 h2 x 0 cap [] rfl (by omega) w (clone_empty x cap w) htab
end Go.Proofs.Qxb6602634aDoor
