/-
  DERIVED. GIVEN WITH THE SEED: THE PROGRAM's TIES (one call each: nine closed facts by the kernel) AND EACH ROW's TIE, after the 31st guide's Derived/Test/Toyas{Tie, Card}.lean. No idea stands in it: it is a product of the set-up. Laid BY PROGRAM, IN A SANDBOX (cutbox-door.mjs). By AI agents, Wed Nov 11 2026. No macro, syntax, notation, axiom, sorry.
-/
import Derived.Test.YtflmkgecgijncaaDoorRows
import Derived.LaidByTextLater
import Derived.SevenTiedAt
import Derived.LaidSub
import Derived.LaidOnce
namespace Go.Proofs.YtflmkgecgijncaaDoor
open Go
set_option maxRecDepth 100000
theorem seatTie1 : Tryd.prog.laidByTextLater [("math/bits.deBruijn32tab", Rows.laid_math_bits_deBruijn32tab), ("math/bits.deBruijn64tab", Rows.laid_math_bits_deBruijn64tab), ("internal/strconv.uint64pow10", Rows.laid_internal_strconv_uint64pow10), ("loop.example/pub-g03339/pub/field.feZero", Rows.laid_loop_example_pub_g03339_pub_field_feZero), ("loop.example/pub-g03339/pub/field.feOne", Rows.laid_loop_example_pub_g03339_pub_field_feOne), ("loop.example/pub-g03339/pub/field.sqrtM1", Rows.laid_loop_example_pub_g03339_pub_field_sqrtM1)] [.data, .data, .data, .widerDeep, .widerDeep, .widerDeep] true :=
  Program.laidByTextLater_by_one 42 8 65 (by kernel_rfl) (by kernel_rfl) (by kernel_rfl) (by kernel_rfl) (by kernel_rfl) (by kernel_rfl) (fun _ _ => by kernel_rfl)
theorem noOwnUnsafe : Tryd.pinned.checked.prog.headLifts.contains "ownunsafe" = false := by kernel_rfl
theorem tie : Tryd.prog.laidByTextLater [("loop.example/pub-g03339/pub/field.feOne", Rows.laid_loop_example_pub_g03339_pub_field_feOne)] [.widerDeep] true :=
  Program.laidByTextLater.sub seatTie1 ["loop.example/pub-g03339/pub/field.feOne"] (by kernel_rfl) (by kernel_rfl)
theorem fnExactLadder_row_tie : Rows.fnExactLadderRow.laidByTextAt .later Tryd.pinned [.widerDeep] true :=
  OpenClaim.laidByTextAt_later rfl rfl tie noOwnUnsafe
theorem fnMultiple_row_tie : Rows.fnMultipleRow.laidByTextAt .later Tryd.pinned [.widerDeep] true :=
  OpenClaim.laidByTextAt_later rfl rfl tie noOwnUnsafe
theorem fnTurns_row_tie : Rows.fnTurnsRow.laidByTextAt .later Tryd.pinned [.widerDeep] true :=
  OpenClaim.laidByTextAt_later rfl rfl tie noOwnUnsafe
theorem fnExactPublic_row_tie : Rows.fnExactPublicRow.laidByTextAt .later Tryd.pinned [.widerDeep] true :=
  OpenClaim.laidByTextAt_later rfl rfl tie noOwnUnsafe
theorem fnBeyond_row_tie : Rows.fnBeyondRow.laidByTextAt .later Tryd.pinned [.widerDeep] true :=
  OpenClaim.laidByTextAt_later rfl rfl tie noOwnUnsafe
theorem fnClamped_row_tie : Rows.fnClampedRow.laidByTextAt .later Tryd.pinned [.widerDeep] true :=
  OpenClaim.laidByTextAt_later rfl rfl tie noOwnUnsafe
theorem fnPublicLadder_row_tie : Rows.fnPublicLadderRow.laidByTextAt .later Tryd.pinned [.widerDeep] true :=
  OpenClaim.laidByTextAt_later rfl rfl tie noOwnUnsafe
theorem fnTopBit_row_tie : Rows.fnTopBitRow.laidByTextAt .later Tryd.pinned [.widerDeep] true :=
  OpenClaim.laidByTextAt_later rfl rfl tie noOwnUnsafe
theorem fnExactShared_row_tie : Rows.fnExactSharedRow.laidByTextAt .later Tryd.pinned [.widerDeep] true :=
  OpenClaim.laidByTextAt_later rfl rfl tie noOwnUnsafe
theorem fnFew_row_tie : Rows.fnFewRow.laidByTextAt .later Tryd.pinned [.widerDeep] true :=
  OpenClaim.laidByTextAt_later rfl rfl tie noOwnUnsafe
theorem fnSharedLadder_row_tie : Rows.fnSharedLadderRow.laidByTextAt .later Tryd.pinned [.widerDeep] true :=
  OpenClaim.laidByTextAt_later rfl rfl tie noOwnUnsafe
theorem fnAgree_row_tie : Rows.fnAgreeRow.laidByTextAt .later Tryd.pinned [.widerDeep] true :=
  OpenClaim.laidByTextAt_later rfl rfl tie noOwnUnsafe
theorem tie2 : Tryd.prog.laidByTextLater [("math/bits.deBruijn32tab", Rows.laid_math_bits_deBruijn32tab), ("math/bits.deBruijn64tab", Rows.laid_math_bits_deBruijn64tab), ("internal/strconv.uint64pow10", Rows.laid_internal_strconv_uint64pow10), ("loop.example/pub-g03339/pub/field.feZero", Rows.laid_loop_example_pub_g03339_pub_field_feZero), ("loop.example/pub-g03339/pub/field.feOne", Rows.laid_loop_example_pub_g03339_pub_field_feOne), ("loop.example/pub-g03339/pub/field.sqrtM1", Rows.laid_loop_example_pub_g03339_pub_field_sqrtM1)] [.data, .data, .data, .widerDeep, .widerDeep, .widerDeep] true :=
  Program.laidByTextLater.sub seatTie1 ["math/bits.deBruijn32tab", "math/bits.deBruijn64tab", "internal/strconv.uint64pow10", "loop.example/pub-g03339/pub/field.feZero", "loop.example/pub-g03339/pub/field.feOne", "loop.example/pub-g03339/pub/field.sqrtM1"] (by kernel_rfl) (by kernel_rfl)
theorem fnExactParse_row_tie : Rows.fnExactParseRow.laidByTextAt .later Tryd.pinned [.data, .data, .data, .widerDeep, .widerDeep, .widerDeep] true :=
  OpenClaim.laidByTextAt_later rfl rfl tie2 noOwnUnsafe
theorem fnExactLadderUpto_row_tie : Rows.fnExactLadderUptoRow.laidByTextAt .later Tryd.pinned [.widerDeep] true :=
  OpenClaim.laidByTextAt_later rfl rfl tie noOwnUnsafe
theorem fnMultipleUpto_row_tie : Rows.fnMultipleUptoRow.laidByTextAt .later Tryd.pinned [.widerDeep] true :=
  OpenClaim.laidByTextAt_later rfl rfl tie noOwnUnsafe
theorem fnTurnsUpto_row_tie : Rows.fnTurnsUptoRow.laidByTextAt .later Tryd.pinned [.widerDeep] true :=
  OpenClaim.laidByTextAt_later rfl rfl tie noOwnUnsafe
theorem fnExactPublicUpto_row_tie : Rows.fnExactPublicUptoRow.laidByTextAt .later Tryd.pinned [.widerDeep] true :=
  OpenClaim.laidByTextAt_later rfl rfl tie noOwnUnsafe
theorem fnBeyondUpto_row_tie : Rows.fnBeyondUptoRow.laidByTextAt .later Tryd.pinned [.widerDeep] true :=
  OpenClaim.laidByTextAt_later rfl rfl tie noOwnUnsafe
theorem fnClampedUpto_row_tie : Rows.fnClampedUptoRow.laidByTextAt .later Tryd.pinned [.widerDeep] true :=
  OpenClaim.laidByTextAt_later rfl rfl tie noOwnUnsafe
theorem fnPublicLadderUpto_row_tie : Rows.fnPublicLadderUptoRow.laidByTextAt .later Tryd.pinned [.widerDeep] true :=
  OpenClaim.laidByTextAt_later rfl rfl tie noOwnUnsafe
theorem fnTopBitUpto_row_tie : Rows.fnTopBitUptoRow.laidByTextAt .later Tryd.pinned [.widerDeep] true :=
  OpenClaim.laidByTextAt_later rfl rfl tie noOwnUnsafe
theorem fnExactSharedUpto_row_tie : Rows.fnExactSharedUptoRow.laidByTextAt .later Tryd.pinned [.widerDeep] true :=
  OpenClaim.laidByTextAt_later rfl rfl tie noOwnUnsafe
theorem fnFewUpto_row_tie : Rows.fnFewUptoRow.laidByTextAt .later Tryd.pinned [.widerDeep] true :=
  OpenClaim.laidByTextAt_later rfl rfl tie noOwnUnsafe
theorem fnSharedLadderUpto_row_tie : Rows.fnSharedLadderUptoRow.laidByTextAt .later Tryd.pinned [.widerDeep] true :=
  OpenClaim.laidByTextAt_later rfl rfl tie noOwnUnsafe
theorem fnAgreeUpto_row_tie : Rows.fnAgreeUptoRow.laidByTextAt .later Tryd.pinned [.widerDeep] true :=
  OpenClaim.laidByTextAt_later rfl rfl tie noOwnUnsafe
theorem fnExactParseUpto_row_tie : Rows.fnExactParseUptoRow.laidByTextAt .later Tryd.pinned [.data, .data, .data, .widerDeep, .widerDeep, .widerDeep] true :=
  OpenClaim.laidByTextAt_later rfl rfl tie2 noOwnUnsafe
end Go.Proofs.YtflmkgecgijncaaDoor
