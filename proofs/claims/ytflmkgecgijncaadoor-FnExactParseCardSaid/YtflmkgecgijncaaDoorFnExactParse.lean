/-
  laws.FnExactParse answers true at every list of bytes: a public key is read of 32 bytes that encode a point, and of no others, and is told as these bytes. The row and its tied card.
-/
import Derived.Test.YtflmkgecgijncaaDoorCards
import Derived.Test.YtflmkgecgijncaaDoorF41
import Derived.Test.YtflmkgecgijncaaDoorL15
namespace Go.Proofs.YtflmkgecgijncaaDoor.fnExactParse
open Go.ChangeShapes Go.WideShapes Go.ChangeAt Go.RowKit

set_option maxRecDepth 100000 in
theorem lifted (os : Os) (started : os.Started) (H : Type) (enc : TypeId × Value → H) :
    ReturnsInHanded {} Tryd.checked os 15 .any (fun w args => (Rows.fnExactParseSpec.pre enc Tryd.prog Tryd.f15 Rows.fnExactParseRow.domain false w args ∧ laidMetH Tryd.prog laidF6 w) ∧ sizedMet enc Tryd.prog Tryd.f15 (OpenSpec.ofChange Rows.fnExactParseSpec) false w args)
      (Rows.fnExactParseSpec.post enc Tryd.prog Tryd.f15 false true false false) := by
  refine returnsInHanded_of_change_and (C := Tryd.checked) (X := fun w _ => laidMetH Tryd.prog laidF6 w) (fun _ _ _ hh h => h.of_heap hh) own started (by kernel_rfl) Tryd.func15
    (ChangeSpec.witness_shaped (enc := enc) (C := Tryd.checked) (os := os) (X := fun w _ => laidMetH Tryd.prog laidF6 w) false (World.laidAll Tryd.prog os laidF6) #[.slice none 0 0] 8 (World.laidAll_os _ _ _)
      (World.shaped_of_ZipB (by kernel_rfl) (by kernel_rfl)) (by kernel_rfl) (by kernel_rfl) (by kernel_rfl)
      (by rw [MakeChecks.laidMetH_plain _ _ _ (by kernel_rfl)]; exact laidMet_laidAll _ (by kernel_rfl) (by kernel_rfl))) ?_
  intro W base args ds gs before hval0 hW hc _ hL _
  have hval : ∀ (j : Nat) t v, Tryd.f15.params[j]? = some t → args[j]? = some v → Value.okWide Tryd.prog W .any base t v := hval0
  have hW' := hW
  obtain ⟨p, q, hA0, hV, rfl, hfz, hnd⟩ := hW
  have hA : DataW.TrodAll enc Tryd.prog W 0 (fun _ => true) true Tryd.f15.params.toList args.toList ds p := hA0
  rw [Tryd.params15] at hA hval
  obtain ⟨v0, vs0, d0, ds0, p0, q0, hargs, rfl, rfl, h0, r0⟩ := trodAll_cons hA
  obtain ⟨rfl, rfl, rfl⟩ := trodAll_nil r0
  obtain rfl : args = #[v0] := by cases args; simp_all
  have lt0 : ∀ x ∈ p0, x.block < W.heap.size := by obtain ⟨m, hm⟩ := h0; exact DataW.trod_lt m _ _ _ hm
  have sl := open36 (hval 0 36 v0 rfl rfl) h0
  have hV1 : DataW.TrodVars enc Tryd.prog W (fun _ => true) ["loop.example/pub-g03339/pub/field.feOne", "loop.example/pub-g03339/pub/field.sqrtM1", "loop.example/pub-g03339/pub/field.feZero"] gs q := hV
  obtain ⟨g1, g2, g3, rfl⟩ := trodVars_three hV1
  obtain ⟨glob, tab⟩ := glob_of_laid hL
  clear hA0 hval0
  have fin : Calls Tryd.prog 15 #[v0] W fun e w' => e = .returned (.bool true) ∧ Below W.heap.size W w' := by
    rcases sl with rfl | ⟨a, n, c, f, rfl, hf, hs⟩
    · exact law15_nil W glob tab
    · exact law15_any n c a f W glob tab hf hs
  refine fin.mono fun e W' ⟨he, bel⟩ => ?_
  subst he
  exact ⟨_, rfl, _, _, _, [], _, _, hW', trodAll_mk1 (shut_bool Tryd.underlying4 _), (trodAll_cons_mk (Below.trod laidOut (by kernel_rfl) (of_decide_eq_true (by kernel_rfl)) h0 bel lt0) trodAll_mk0), bel.trodVars laidOut (by kernel_rfl) hV, bel.frame _, fun h => by cases h⟩

theorem row_holds : Rows.FnExactParseSaid :=
  OpenClaim.holds_of_wide 15 Tryd.f15 rfl rfl rfl rfl rfl rfl rfl ⟨rfl, rfl, rfl, rfl, rfl⟩ rfl rfl rfl rfl rfl (by kernel_rfl) Tryd.func15 (by kernel_rfl)
    (of_decide_eq_true (by kernel_rfl)) (by unfold Func.isWrapper; first | (rw [if_pos (by decide +kernel)]; kernel_rfl) | (rw [if_neg (by decide +kernel)]; exact ⟨rfl, rfl⟩))
    (fun os started H enc _ => lifted os started H enc)

/-- ████ THE STATEMENT ████ -/
theorem proved : Rows.FnExactParseCardSaid :=
  Claim7.holds_tied_plain_at .later [] [.data, .data, .data, .widerDeep, .widerDeep, .widerDeep] true (true, "46779be05ca6684b4b0f52c99e014abc115232f2608e7a8c5cd36816e0af0108") false
    row_holds (fun _ h => by cases h) (by kernel_rfl) (fun _ h => by cases h) fnExactParse_row_tie rfl ⟨rfl, rfl⟩ (by kernel_rfl) rfl
    (fun f fn hf hfn => by
      obtain rfl : f = 15 := Option.some.inj ((show Tryd.prog.funcNamed "loop.example/pub-g03339/laws.FnExactParse" = some 15 by kernel_rfl).symm.trans hf) |>.symm
      obtain rfl : fn = Tryd.f15 := (Option.some.inj (Tryd.func15.symm.trans hfn)).symm
      exact ⟨by kernel_rfl, fun j t ht => by
        rw [Tryd.params15] at ht
        have h3 : t = 36 := by
          match j, ht with
          | 0, ht => exact (Option.some.inj ht).symm
          | (k + 1), ht => simp at ht
        subst h3
        exact (show Tryd.prog.wantsStandIn 36 = false by kernel_rfl)⟩)
    (by kernel_rfl)
#print axioms proved
end Go.Proofs.YtflmkgecgijncaaDoor.fnExactParse
