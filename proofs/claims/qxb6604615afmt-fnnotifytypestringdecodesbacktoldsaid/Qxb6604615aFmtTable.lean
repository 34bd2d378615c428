/-
  THE WALKS OF notifyTable, notifyName AND notifyDecode; THE NOTIFY LAW.
-/
import Derived.Test.Qxb6604615aFmtNotify
namespace Go.Proofs.Qxb6604615aFmt
open Go.RowKit Go.Extern.Stop Go.Stop Go.Extern Go.Kit

set_option maxHeartbeats 1000000 in
theorem table_any (w : World) :
    Calls Tryf.prog 14 #[] w fun e w' => e = .returned (.tuple #[.agg #[.int .u16 1, .int .u16 7, .int .u16 14, .int .u16 17, .int .u16 24, .int .u16 35, .int .u16 38, .int .u16 48, .int .u16 16384, .int .u16 16388, .int .u16 16389, .int .u16 16390, .int .u16 16393, .int .u16 16444], .agg #[.string nm0, .string nm1, .string nm2, .string nm3, .string nm4, .string nm5, .string nm6, .string nm7, .string nm8, .string nm9, .string nm10, .string nm11, .string nm12, .string nm13]]) ∧ Below w.heap.size w w' := by
  go_enter Tryf.func14, Tryf.ntmps14
  go_wp2
  exact bodyPost_ret (v := .tuple #[.agg #[.int .u16 1, .int .u16 7, .int .u16 14, .int .u16 17, .int .u16 24, .int .u16 35, .int .u16 38, .int .u16 48, .int .u16 16384, .int .u16 16388, .int .u16 16389, .int .u16 16390, .int .u16 16393, .int .u16 16444], .agg #[.string nm0, .string nm1, .string nm2, .string nm3, .string nm4, .string nm5, .string nm6, .string nm7, .string nm8, .string nm9, .string nm10, .string nm11, .string nm12, .string nm13]]) (by simp [results, Tryf.results14, go_sem]; exact ⟨rfl, rfl, rfl, rfl, rfl, rfl, rfl, rfl, rfl, rfl, rfl, rfl, rfl, rfl⟩) rfl ⟨rfl, ((Below.refl _ _).alloc (Nat.le_refl _) _).alloc (by simp) _⟩
end Go.Proofs.Qxb6604615aFmt
