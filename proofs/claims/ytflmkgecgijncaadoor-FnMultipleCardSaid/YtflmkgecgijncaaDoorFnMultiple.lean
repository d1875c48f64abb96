/-
  laws.FnMultiple: the row and its tied card. The frame was printed by gen_row.py, after the guide's worked rows.
-/
import Derived.Test.YtflmkgecgijncaaDoorCards
import Derived.Test.YtflmkgecgijncaaDoorF25
import Derived.Test.YtflmkgecgijncaaDoorS20
namespace Go.Proofs.YtflmkgecgijncaaDoor.fnMultiple
open Go.ChangeShapes Go.WideShapes Go.ChangeAt Go.RowKit

set_option maxRecDepth 100000 in
theorem lifted (os : Os) (started : os.Started) (H : Type) (enc : TypeId × Value → H) :
    ReturnsInHanded {} Tryd.checked os 4 .any (fun w args => (Rows.fnMultipleSpec.pre enc Tryd.prog Tryd.f4 Rows.fnMultipleRow.domain false w args ∧ laidMetH Tryd.prog laidF w) ∧ sizedMet enc Tryd.prog Tryd.f4 (OpenSpec.ofChange Rows.fnMultipleSpec) false w args)
      (Rows.fnMultipleSpec.post enc Tryd.prog Tryd.f4 false true false false) := by
  refine returnsInHanded_of_change_and (C := Tryd.checked) (X := fun w _ => laidMetH Tryd.prog laidF w) (fun _ _ _ hh h => h.of_heap hh) own started (by kernel_rfl) Tryd.func4
    (ChangeSpec.witness_shaped (enc := enc) (C := Tryd.checked) (os := os) (X := fun w _ => laidMetH Tryd.prog laidF w) false (World.laidAll Tryd.prog os laidF) #[.agg (List.replicate 32 (.int .u8 0)).toArray, .agg (List.replicate 32 (.int .u8 0)).toArray] 8 (World.laidAll_os _ _ _)
      (World.shaped_of_ZipB (by kernel_rfl) (by kernel_rfl)) (by kernel_rfl) (by kernel_rfl) (by kernel_rfl)
      (by rw [MakeChecks.laidMetH_plain _ _ _ (by kernel_rfl)]; exact laidMet_laidAll _ (by kernel_rfl) (by kernel_rfl))) ?_
  intro W base args ds gs before hval0 hW hc _ hL _
  have hval : ∀ (j : Nat) t v, Tryd.f4.params[j]? = some t → args[j]? = some v → Value.okWide Tryd.prog W .any base t v := hval0
  have hW' := hW
  obtain ⟨p, q, hA0, hV, rfl, hfz, hnd⟩ := hW
  have hA : DataW.TrodAll enc Tryd.prog W 0 (fun _ => true) true Tryd.f4.params.toList args.toList ds p := hA0
  rw [Tryd.params4] at hA hval
  obtain ⟨v0, vs0, d0, ds0, p0, q0, hargs, rfl, rfl, h0, r0⟩ := trodAll_cons hA
  obtain ⟨v1, vs1, d1, ds1, p1, q1, hvs1, rfl, rfl, h1, r1⟩ := trodAll_cons r0
  obtain ⟨rfl, rfl, rfl⟩ := trodAll_nil r1
  subst hvs1
  obtain rfl : args = #[v0, v1] := by cases args; simp_all
  have lt0 : ∀ x ∈ p0, x.block < W.heap.size := by obtain ⟨m, hm⟩ := h0; exact DataW.trod_lt m _ _ _ hm
  have lt1 : ∀ x ∈ p1, x.block < W.heap.size := by obtain ⟨m, hm⟩ := h1; exact DataW.trod_lt m _ _ _ hm
  obtain ⟨f0, b0, e0⟩ := open22 (hval 0 22 v0 rfl rfl) h0
  obtain ⟨f1, b1, e1⟩ := open22 (hval 1 22 v1 rfl rfl) h1
  have hV1 : DataW.TrodVars enc Tryd.prog W (fun _ => true) ["loop.example/pub-g03339/pub/field.feOne"] gs q := hV
  obtain ⟨gI, tI, csI, fI, dg, pg, rfl, _, _, _, _, rfl⟩ := trodVars_one hV1
  have one := one_of_laid hL
  clear hA0 hval0
  have fin : Calls Tryd.prog 4 #[v0, v1] W fun e w' => e = .returned (.bool true) ∧ Below W.heap.size W w' := by
    subst e0 e1
    exact fnMultiple_any f0 f1 b0 b1 _ _ (hid rfl) (hid rfl) W one
  refine fin.mono fun e W' ⟨he, bel⟩ => ?_
  subst he
  exact ⟨_, rfl, _, _, _, [], _, _, hW', trodAll_mk1 (shut_bool Tryd.underlying4 _), (trodAll_cons_mk (Below.trod laidOut (by kernel_rfl) (of_decide_eq_true (by kernel_rfl)) h0 bel lt0) (trodAll_cons_mk (Below.trod laidOut (by kernel_rfl) (of_decide_eq_true (by kernel_rfl)) h1 bel lt1) trodAll_mk0)), bel.trodVars laidOut (by kernel_rfl) hV, bel.frame _, fun h => by cases h⟩

theorem row_holds : Rows.FnMultipleSaid :=
  OpenClaim.holds_of_wide 4 Tryd.f4 rfl rfl rfl rfl rfl rfl rfl ⟨rfl, rfl, rfl, rfl, rfl⟩ rfl rfl rfl rfl rfl (by kernel_rfl) Tryd.func4 (by kernel_rfl)
    (of_decide_eq_true (by kernel_rfl)) (by unfold Func.isWrapper; first | (rw [if_pos (by decide +kernel)]; kernel_rfl) | (rw [if_neg (by decide +kernel)]; exact ⟨rfl, rfl⟩))
    (fun os started H enc _ => lifted os started H enc)

/-- ████ THE STATEMENT ████ -/
theorem proved : Rows.FnMultipleCardSaid :=
  Claim7.holds_tied_plain_at .later [] [.widerDeep] true (true, "46779be05ca6684b4b0f52c99e014abc115232f2608e7a8c5cd36816e0af0108") false
    row_holds (fun _ h => by cases h) (by kernel_rfl) (fun _ h => by cases h) fnMultiple_row_tie rfl ⟨rfl, rfl⟩ (by kernel_rfl) rfl
    (fun f fn hf hfn => by
      obtain rfl : f = 4 := Option.some.inj ((show Tryd.prog.funcNamed "loop.example/pub-g03339/laws.FnMultiple" = some 4 by kernel_rfl).symm.trans hf) |>.symm
      obtain rfl : fn = Tryd.f4 := (Option.some.inj (Tryd.func4.symm.trans hfn)).symm
      exact ⟨by kernel_rfl, fun j t ht => by
        rw [Tryd.params4] at ht
        have h3 : t = 22 := by
          match j, ht with
          | 0, ht => exact (Option.some.inj ht).symm
          | 1, ht => exact (Option.some.inj ht).symm
          | (k + 2), ht => simp at ht
        subst h3
        exact (show Tryd.prog.wantsStandIn 22 = false by kernel_rfl)⟩)
    (by kernel_rfl)
#print axioms proved
end Go.Proofs.YtflmkgecgijncaaDoor.fnMultiple
