/-
  append ONTO A SLICE WHOSE CAPACITY IS ITS LENGTH (or onto nil): IT ALWAYS GROWS: what comes back lies in a new block, and nothing old has turned. Out of the kit's laws on append.
-/
import Derived.WalkKit
import Derived.Lib.AppendStr
namespace Go.Proofs.Qxb6602634aDoor
open Go.RowKit Go.Lib

/-- The slice value has no room: it is nil, or its capacity is its length. -/
def NoRoom (v : Value) (n : Nat) : Prop := v = .slice none 0 0 ∨ ∃ g, v = .slice (some ⟨g, 0, none⟩) n n

theorem rebase {w : World} {b e n : Nat} {k cap : Nat} {xs : List Value} (h : w.ownsRow b e 1 (.slice (some ⟨k, 0, none⟩) n cap) n xs) : w.ownsRow k e 1 (.slice (some ⟨k, 0, none⟩) n cap) n xs := by
  refine ⟨h.1, ?_⟩
  rcases h.2 with ⟨h1, _⟩ | ⟨g, c, cur, h1, _, h3⟩
  · cases h1
  · cases h1
    exact .inr ⟨k, cap, cur, rfl, Nat.le_refl _, h3⟩

section
variable {P : Program} (w : World)

theorem run_append_full (base : Nat) (t ty e : TypeId) (i : TypeInfo) (ht : P.underlying t = some (.slice e)) (hi : P.info? e = some i) (hz : i.zero = some (.int .u8 0))
    (hsize : i.size = 1) (hby : i.bytes = 1)
    (v : Value) (n : Nat) (xs : List Value) (hown : w.ownsRow base e 1 v n xs) (hfull : NoRoom v n)
    (a : Addr) (m c : Nat) (news : List Value) (hl : news.length = m) (hnews : ∀ j u, news[j]? = some u → w.cell? (a.add j) = some u) (h1 : ∀ u ∈ news, u.oneCell' = true) (hm : 1 ≤ m)
    (h63 : n + m ≤ maxLen) (hbytes : n + m ≤ 140737488355328) (hbase : base ≤ w.heap.size) :
    ∃ v' w', (Builtin.append_ #[t, t] ty #[v, .slice (some a) m c]).run P w = .ok v' w' ∧ w'.ownsRow w.heap.size e 1 v' (n + m) (xs ++ news) ∧ Below w.heap.size w w' := by
  obtain ⟨v', w', hr, h2, _, _⟩ := run_append_own (P := P) w base t ty e i (.int .u8 0) 1 1 ht hi hz hsize hby rfl (by omega) v n xs hown a m c news (by rw [hl, Nat.mul_one]) hnews h1 h63 (by omega) hbase
  have hsm : n + m ≤ 9223372036854775807 := by simp only [maxLen] at h63; omega
  rcases hfull with rfl | ⟨g, rfl⟩
  · have hn : n = 0 := by
      rcases hown.2 with ⟨_, h⟩ | ⟨g, cap, cur, h, _⟩
      · exact h
      · cases h
    subst hn
    have hr2 := run_append_nil (P := P) w t ty e i (.int .u8 0) ht hi hz a m c news (by rw [hsize, hl, Nat.mul_one]) hnews hm (by omega) (by rw [hby]; omega)
    rw [hr2] at hr
    cases hr
    refine ⟨_, _, hr2, ?_, ((Below.refl _ w).drew).alloc (Nat.le_refl _) _⟩
    simp only [Nat.zero_add] at h2 ⊢
    exact rebase h2
  · have holds : ∀ j u, xs[j]? = some u → w.cell? ((⟨g, 0, none⟩ : Addr).add j) = some u := hown.cells (g := g) rfl
    have hr2 := run_append_grow (P := P) w t ty e i (.int .u8 0) ht hi hz ⟨g, 0, none⟩ n n xs (by rw [hsize]; exact hown.1) holds a m c news (by rw [hsize, hl, Nat.mul_one]) hnews (by omega) (by omega) (by rw [hby]; exact growslice_fits (by omega) (by omega))
    rw [hr2] at hr
    cases hr
    exact ⟨_, _, hr2, rebase h2, ((Below.refl _ w).drew).alloc (Nat.le_refl _) _⟩

theorem run_append_full_string (base : Nat) (t u ty e : TypeId) (i : TypeInfo) (ht : P.underlying t = some (.slice e)) (hu : P.underlying u = some .string) (hi : P.info? e = some i) (hz : i.zero = some (.int .u8 0))
    (hsize : i.size = 1) (hby : i.bytes = 1)
    (v : Value) (n : Nat) (xs : List Value) (hown : w.ownsRow base e 1 v n xs) (hfull : NoRoom v n) (s : ByteArray) (hm : 1 ≤ s.size)
    (h63 : n + s.size ≤ maxLen) (hbytes : n + s.size ≤ 140737488355328) (hbase : base ≤ w.heap.size) :
    ∃ v' w', (Builtin.append_ #[t, u] ty #[v, .string s]).run P w = .ok v' w' ∧ w'.ownsRow w.heap.size e 1 v' (n + s.size) (xs ++ strCells s) ∧ Below w.heap.size w w' := by
  obtain ⟨v', w', hr, h2, _, _⟩ := run_append_own_string (P := P) w base t u ty e i ht hu hi hz hsize hby v n xs hown s h63 hbytes hbase
  have hsm : n + s.size ≤ 9223372036854775807 := by simp only [maxLen] at h63; omega
  rcases hfull with rfl | ⟨g, rfl⟩
  · have hn : n = 0 := by
      rcases hown.2 with ⟨_, h⟩ | ⟨g, cap, cur, h, _⟩
      · exact h
      · cases h
    subst hn
    have hr2 := run_append_nil_string (P := P) w t u ty e i (.int .u8 0) ht hu hi hz s hm (by omega) (by rw [hby]; omega)
    rw [hr2] at hr
    cases hr
    refine ⟨_, _, hr2, ?_, ((Below.refl _ w).drew).alloc (Nat.le_refl _) _⟩
    simp only [Nat.zero_add] at h2 ⊢
    exact rebase h2
  · have holds : ∀ j u, xs[j]? = some u → w.cell? ((⟨g, 0, none⟩ : Addr).add j) = some u := hown.cells (g := g) rfl
    have hr2 := run_append_grow_string (P := P) w t u ty e i (.int .u8 0) ht hu hi hz ⟨g, 0, none⟩ n n xs (by rw [hsize]; exact hown.1) holds s (by omega) (by omega) (by rw [hby]; exact growslice_fits (by omega) (by omega))
    rw [hr2] at hr
    cases hr
    exact ⟨_, _, hr2, rebase h2, ((Below.refl _ w).drew).alloc (Nat.le_refl _) _⟩

theorem wpList_append_full {ops : Array Oper} {rest : List Oper} {o : Oper} {a : Act} {Q : Exit → Act → World → Prop} (hgd : o.guard = none) (s x : Operand) (t : TypeId)
    (ho : o.op = .call { callee := .builtin .append, args := #[s, x], argTypes := #[t, t] })
    (base : Nat) (e : TypeId) (i : TypeInfo) (ht : P.underlying t = some (.slice e)) (hi : P.info? e = some i) (hz : i.zero = some (.int .u8 0)) (hsize : i.size = 1) (hby : i.bytes = 1)
    (v : Value) (n : Nat) (xs : List Value) (hs : a.eval s = v) (hown : w.ownsRow base e 1 v n xs) (hfull : NoRoom v n)
    (ad : Addr) (m c : Nat) (news : List Value) (hx : a.eval x = .slice (some ad) m c) (hl : news.length = m) (hnews : ∀ j u, news[j]? = some u → w.cell? (ad.add j) = some u) (h1 : ∀ u ∈ news, u.oneCell' = true) (hm : 1 ≤ m)
    (h63 : n + m ≤ maxLen) (hbytes : n + m ≤ 140737488355328) (hbase : base ≤ w.heap.size)
    (h : ∀ v' w', w'.ownsRow w.heap.size e 1 v' (n + m) (xs ++ news) → Below w.heap.size w w' → wpList P ops Q rest (a.put o.dst v') w') : wpList P ops Q (o :: rest) a w := by
  refine wpList_plain hgd fun K hK => ?_
  obtain ⟨v', w', hr, h2, h3⟩ := run_append_full (P := P) w base t o.type e i ht hi hz hsize hby v n xs hown hfull ad m c news hl hnews h1 hm h63 hbytes hbase
  unfold Oper.wp execOp
  simp only [ho, resolve, invoke, builtin, Sem.run_bind, Sem.run_pure, Result.andThen_ok, List.map_toArray, List.map_cons, List.map_nil, hs, hx, hr]
  exact hK _ _ (h v' w' h2 h3)

theorem wpList_append_full_string {ops : Array Oper} {rest : List Oper} {o : Oper} {a : Act} {Q : Exit → Act → World → Prop} (hgd : o.guard = none) (sl x : Operand) (t u : TypeId)
    (ho : o.op = .call { callee := .builtin .append, args := #[sl, x], argTypes := #[t, u] })
    (base : Nat) (e : TypeId) (i : TypeInfo) (ht : P.underlying t = some (.slice e)) (hu : P.underlying u = some .string) (hi : P.info? e = some i) (hz : i.zero = some (.int .u8 0)) (hsize : i.size = 1) (hby : i.bytes = 1)
    (v : Value) (n : Nat) (xs : List Value) (hs : a.eval sl = v) (hown : w.ownsRow base e 1 v n xs) (hfull : NoRoom v n) (s : ByteArray) (hx : a.eval x = .string s) (hm : 1 ≤ s.size)
    (h63 : n + s.size ≤ maxLen) (hbytes : n + s.size ≤ 140737488355328) (hbase : base ≤ w.heap.size)
    (h : ∀ v' w', w'.ownsRow w.heap.size e 1 v' (n + s.size) (xs ++ strCells s) → Below w.heap.size w w' → wpList P ops Q rest (a.put o.dst v') w') : wpList P ops Q (o :: rest) a w := by
  refine wpList_plain hgd fun K hK => ?_
  obtain ⟨v', w', hr, h2, h3⟩ := run_append_full_string (P := P) w base t u o.type e i ht hu hi hz hsize hby v n xs hown hfull s hm h63 hbytes hbase
  unfold Oper.wp execOp
  simp only [ho, resolve, invoke, builtin, Sem.run_bind, Sem.run_pure, Result.andThen_ok, List.map_toArray, List.map_cons, List.map_nil, hs, hx, hr]
  exact hK _ _ (h v' w' h2 h3)
end
end Go.Proofs.Qxb6602634aDoor
