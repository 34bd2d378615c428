/-
  FnUSDAppendTextParsesBack: THE ROW, AND THE TIED CARD.
-/
import Derived.Test.Qxb6602634aDoorFrame
import Derived.Test.Qxb6602634aDoorBack
import Derived.OpenShut
namespace Go.Proofs.Qxb6602634aDoor
open Go.ChangeShapes Go.WideShapes Go.ChangeAt Go.RowKit

theorem back_any (d : Int) (a : Option Addr) (len cap : Nat) (zs : List Int) (w : World) (h1 : -9223372036854775808 ≤ d) (h2 : d ≤ 9223372036854775807) (hr : IsRow w a len cap zs)
    (htab : Lib.TabIs Tryd.prog w Tryd.pow10Name .u64 Lib.pow10Tab) :
    Calls Tryd.prog 4 #[.int .i64 d, .slice a len cap] w fun e w' => e = .returned (.bool true) ∧ Below w.heap.size w w' := by
  rcases hr with ⟨rfl, rfl, rfl, rfl⟩ | ⟨x, rfl, hl, hm, hz, hc⟩
  · exact back_nil d h1 h2 w htab
  · by_cases hn : len ≤ 1048576
    · by_cases h0 : len = 0
      · subst h0
        exact back_empty d h1 h2 x cap w htab
      · obtain ⟨b, off, rfl, hc2⟩ := ints_at hc (by omega)
        have hb : b < w.heap.size := World.block_lt_of_cell? _ _ (hc2 0 (by omega))
        refine back_some d h1 h2 b off len cap (zs.take len) (by rw [List.length_take]; omega) hn w ?_ hb htab
        intro i hi
        rw [hc2 i (by omega)]
        simp [List.getD, hi]
    · exact back_long d _ len cap (by omega) (by omega) w

set_option maxRecDepth 100000 in
theorem back_lifted (os : Os) (started : os.Started) (H : Type) (enc : TypeId × Value → H) :
    ReturnsInHanded {} Tryd.checked os 4 .any (fun w args => (Rows.fnUSDAppendTextParsesBackSpec.pre enc Tryd.prog Tryd.f4 [] false w args ∧ laidMetH Tryd.prog Rows.fnUSDAppendTextExactRow.laid w) ∧ sizedMet enc Tryd.prog Tryd.f4 (OpenSpec.ofChange Rows.fnUSDAppendTextParsesBackSpec) false w args)
      (Rows.fnUSDAppendTextParsesBackSpec.post enc Tryd.prog Tryd.f4 false true false false) := by
  refine returnsInHanded_of_change_and (C := Tryd.checked) (X := fun w _ => laidMetH Tryd.prog Rows.fnUSDAppendTextExactRow.laid w) (fun _ _ _ hh h => h.of_heap hh) own started (by kernel_rfl) Tryd.func4
    (ChangeSpec.witness_shaped (enc := enc) (C := Tryd.checked) (os := os) (X := fun w _ => laidMetH Tryd.prog Rows.fnUSDAppendTextExactRow.laid w) false (World.doorLaid Tryd.prog 400 os) #[.int .i64 0, .slice none 0 0] 8 rfl (World.shaped_of_RefB (by kernel_rfl) (by kernel_rfl)) (by kernel_rfl) (by kernel_rfl) (by kernel_rfl) (door_met os _)) ?_
  intro W base args ds gs before hval0 hW _ _ hL _
  have hval : ∀ (j : Nat) t v, Tryd.f4.params[j]? = some t → args[j]? = some v → Value.okWide Tryd.prog W .any base t v := hval0
  have hW' := hW
  obtain ⟨p, q, hA0, hV, rfl, hfz, hnd⟩ := hW
  have hA : DataW.TrodAll enc Tryd.prog W 0 (fun _ => true) true Tryd.f4.params.toList args.toList ds p := hA0
  rw [Tryd.params4] at hA hval
  obtain ⟨v0, v1, d0, d1, p0, p1, rfl, rfl, rfl, h0, h1⟩ := trodAll_two hA
  obtain ⟨rfl, rfl⟩ := trodVars_none hV
  obtain ⟨a0, rfl, rfl, rfl, w0⟩ := open_int Tryd.underlying2 (hval 0 2 v0 rfl rfl) h0
  obtain ⟨a1, len1, cap1, rfl⟩ := okWide_slice Tryd.underlying22 (hval 1 22 v1 rfl rfl)
  have k1 := h1
  have lt1 : ∀ x ∈ p1, x.block < W.heap.size := by obtain ⟨m, hm⟩ := k1; exact DataW.trod_lt m _ _ _ hm
  obtain ⟨z1, w1⟩ : ∃ zs, IsRow W a1 len1 cap1 zs := by
    obtain ⟨fuel, hf⟩ := h1
    rcases open_ints Tryd.underlying22 Tryd.underlying5 (by kernel_rfl) hf with ⟨hcs, _⟩ | ⟨x, l, c, zs, hcs, _, hl, hm, hz, _, hcell, _⟩
    · simp [Value.cells] at hcs
      obtain ⟨rfl, rfl, rfl⟩ := hcs
      exact ⟨[], .inl ⟨rfl, rfl, rfl, rfl⟩⟩
    · simp [Value.cells] at hcs
      obtain ⟨rfl, rfl, rfl⟩ := hcs
      exact ⟨zs, .inr ⟨_, rfl, hl, hm, by simpa using hz, hcell⟩⟩
  have hb : -9223372036854775808 ≤ a0 ∧ a0 ≤ 9223372036854775807 := by
    have := w0
    simp [Lit.wf, IntKind.min, IntKind.max, IntKind.signed, IntKind.bits] at this
    exact this
  clear hA0 hval0
  refine (back_any a0 a1 len1 cap1 z1 W hb.1 hb.2 w1 (tab_of hL)).mono fun e W' ⟨he, bel⟩ => ?_
  subst he
  exact ⟨_, rfl, _, _, _, [], _, [], hW', trodAll_mk1 (shut_bool Tryd.underlying4 _), (trodAll_mk2 (shut_int Tryd.underlying2 w0) (Below.trod laidOut (by kernel_rfl) (of_decide_eq_true (by kernel_rfl)) k1 bel lt1)), rfl, bel.frame _, fun h => by cases h⟩

theorem back_row : Rows.FnUSDAppendTextParsesBackSaid :=
  OpenClaim.holds_of_wide 4 Tryd.f4 rfl rfl rfl rfl rfl rfl rfl ⟨rfl, rfl, rfl, rfl, rfl⟩ rfl rfl rfl rfl rfl (by kernel_rfl) Tryd.func4 (by kernel_rfl)
    (of_decide_eq_true (by kernel_rfl)) (by unfold Func.isWrapper; first | (rw [if_pos (by decide +kernel)]; kernel_rfl) | (rw [if_neg (by decide +kernel)]; exact ⟨rfl, rfl⟩))
    (fun os started H enc _ => back_lifted os started H enc)

theorem back_named : Tryd.prog.funcNamed Rows.fnUSDAppendTextParsesBackRow.func = some 4 := by kernel_rfl

theorem back_card : Rows.FnUSDAppendTextParsesBackCardSaid :=
  Claim7.holds_tied_plain_at .later [] [.data, .data, .data] true _ false
    back_row (fun _ h => by cases h) (by kernel_rfl) (fun _ h => by cases h) fnUSDAppendTextParsesBack_row_tie rfl ⟨rfl, rfl⟩ (by kernel_rfl) rfl
    (fun f fn hf hfn => by
      obtain rfl : f = 4 := (Option.some.inj (back_named.symm.trans hf)).symm
      obtain rfl : fn = Tryd.f4 := (Option.some.inj (Tryd.func4.symm.trans hfn)).symm
      exact ⟨by kernel_rfl, fun j t ht => by
        rw [Tryd.params4] at ht
        have hm : t ∈ [2, 22] := by simpa using Array.mem_of_getElem? ht
        have hall : ([2, 22].all fun u => !Tryd.prog.wantsStandIn u) = true := by kernel_rfl
        exact (show Tryd.prog.wantsStandIn t = false by simpa using List.all_eq_true.1 hall t hm)⟩)
    (by kernel_rfl)
end Go.Proofs.Qxb6602634aDoor
