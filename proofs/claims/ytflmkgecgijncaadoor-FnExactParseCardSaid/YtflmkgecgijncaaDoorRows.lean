/-
  NARROWER THAN 'FOR EVERY INPUT', by the rows' own cells (each row's printed sentence says how): FnExactLadder: laid · FnMultiple: laid · FnTurns: laid · FnExactPublic: laid · FnBeyond: laid · FnClamped: laid · FnPublicLadder: laid · FnTopBit: laid · FnExactShared: laid · FnFew: laid · FnSharedLadder: laid · FnAgree: laid · FnExactParse: laid.
  DERIVED. THE GIVEN ROWS OF THIS SEAT. 13 by the template 'for every input the law returns true; each argument reads behind the call as it read before'; 0 by the template 'total and deterministic' (their statements: YtflmkgecgijncaaDoorTotals.lean).
  GIVEN WITH THE SEED: the statements are not yours to turn. If you find one false, say at which input.
  Laid BY PROGRAM, IN A SANDBOX (cutbox-rows.mjs): the forced cells as the released guide's own fill.sh prints them over the translation 98eb6e427b493268… (all of the seat's roots in one cut). By AI agents, Wed Nov 11 2026. No macro, syntax, notation, axiom, sorry.
-/
import Derived.Test.YtflmkgecgijncaaDoorChecked
import GoSem.Claim
import GoSem.ClaimJoined
import GoSem.ClaimMapViews
import Derived.JoinedTies
import Derived.KernelRfl
namespace Go.Proofs.YtflmkgecgijncaaDoor
/- THE CELL 'sum', in the pinned program and in every row, IS THE sha256 OF THE DUMP (.gsa) THAT YtflmkgecgijncaaDoorProg.lean LOADS. Nothing in Lean hashes anything: it is a label: what it is worth is what the hold of that sum in a sandbox is worth. -/
noncomputable def Tryd.pinned : Pinned := { name := "ytflmkgecgijncaadoor", sum := "98eb6e427b49326874e24749afee4a9bef6863b3c98e19625c7ff38416927137", checked := Tryd.checked }
namespace Rows
def none {H : Type} : Left H := { results := [], args := [] }

/- WHAT THE LISTED PACKAGE-LEVEL VARIABLES READ AS WHEN THE CALL BEGINS. Each datum BY PROGRAM (the guide's laid-datum.mjs) off the statement by which the dump's own 'gosem.cut.vars' lays the variable. In a bare row this is a premise. The card (YtflmkgecgijncaaDoorCards.lean) ties it to the program's text. -/
def laid_loop_example_pub_g03339_pub_field_feOne {H : Type} : DataW H := .ptr (.agg [.lit (.int .u64 1), .lit (.int .u64 0), .lit (.int .u64 0), .lit (.int .u64 0), .lit (.int .u64 0)])
def laid_math_bits_deBruijn32tab {H : Type} : DataW H := .agg [.lit (.int .u8 0), .lit (.int .u8 1), .lit (.int .u8 28), .lit (.int .u8 2), .lit (.int .u8 29), .lit (.int .u8 14), .lit (.int .u8 24), .lit (.int .u8 3), .lit (.int .u8 30), .lit (.int .u8 22), .lit (.int .u8 20), .lit (.int .u8 15), .lit (.int .u8 25), .lit (.int .u8 17), .lit (.int .u8 4), .lit (.int .u8 8), .lit (.int .u8 31), .lit (.int .u8 27), .lit (.int .u8 13), .lit (.int .u8 23), .lit (.int .u8 21), .lit (.int .u8 19), .lit (.int .u8 16), .lit (.int .u8 7), .lit (.int .u8 26), .lit (.int .u8 12), .lit (.int .u8 18), .lit (.int .u8 6), .lit (.int .u8 11), .lit (.int .u8 5), .lit (.int .u8 10), .lit (.int .u8 9)]
def laid_math_bits_deBruijn64tab {H : Type} : DataW H := .agg [.lit (.int .u8 0), .lit (.int .u8 1), .lit (.int .u8 56), .lit (.int .u8 2), .lit (.int .u8 57), .lit (.int .u8 49), .lit (.int .u8 28), .lit (.int .u8 3), .lit (.int .u8 61), .lit (.int .u8 58), .lit (.int .u8 42), .lit (.int .u8 50), .lit (.int .u8 38), .lit (.int .u8 29), .lit (.int .u8 17), .lit (.int .u8 4), .lit (.int .u8 62), .lit (.int .u8 47), .lit (.int .u8 59), .lit (.int .u8 36), .lit (.int .u8 45), .lit (.int .u8 43), .lit (.int .u8 51), .lit (.int .u8 22), .lit (.int .u8 53), .lit (.int .u8 39), .lit (.int .u8 33), .lit (.int .u8 30), .lit (.int .u8 24), .lit (.int .u8 18), .lit (.int .u8 12), .lit (.int .u8 5), .lit (.int .u8 63), .lit (.int .u8 55), .lit (.int .u8 48), .lit (.int .u8 27), .lit (.int .u8 60), .lit (.int .u8 41), .lit (.int .u8 37), .lit (.int .u8 16), .lit (.int .u8 46), .lit (.int .u8 35), .lit (.int .u8 44), .lit (.int .u8 21), .lit (.int .u8 52), .lit (.int .u8 32), .lit (.int .u8 23), .lit (.int .u8 11), .lit (.int .u8 54), .lit (.int .u8 26), .lit (.int .u8 40), .lit (.int .u8 15), .lit (.int .u8 34), .lit (.int .u8 20), .lit (.int .u8 31), .lit (.int .u8 10), .lit (.int .u8 25), .lit (.int .u8 14), .lit (.int .u8 19), .lit (.int .u8 9), .lit (.int .u8 13), .lit (.int .u8 8), .lit (.int .u8 7), .lit (.int .u8 6)]
def laid_internal_strconv_uint64pow10 {H : Type} : DataW H := .agg [.lit (.int .u64 1), .lit (.int .u64 10), .lit (.int .u64 100), .lit (.int .u64 1000), .lit (.int .u64 10000), .lit (.int .u64 100000), .lit (.int .u64 1000000), .lit (.int .u64 10000000), .lit (.int .u64 100000000), .lit (.int .u64 1000000000), .lit (.int .u64 10000000000), .lit (.int .u64 100000000000), .lit (.int .u64 1000000000000), .lit (.int .u64 10000000000000), .lit (.int .u64 100000000000000), .lit (.int .u64 1000000000000000), .lit (.int .u64 10000000000000000), .lit (.int .u64 100000000000000000), .lit (.int .u64 1000000000000000000), .lit (.int .u64 10000000000000000000)]
def laid_loop_example_pub_g03339_pub_field_feZero {H : Type} : DataW H := .ptr (.agg [.lit (.int .u64 0), .lit (.int .u64 0), .lit (.int .u64 0), .lit (.int .u64 0), .lit (.int .u64 0)])
def laid_loop_example_pub_g03339_pub_field_sqrtM1 {H : Type} : DataW H := .ptr (.agg [.lit (.int .u64 1718705420411056), .lit (.int .u64 234908883556509), .lit (.int .u64 2233514472574048), .lit (.int .u64 2117202627021982), .lit (.int .u64 765476049583133)])

/-- 'laws.FnExactLadder': WHATEVER THE INPUT: true; the input reads as it did. -/
def fnExactLadderSpec : ChangeSpec := { name := "fnExactLadder", vars := ["loop.example/pub-g03339/pub/field.feOne"], fn := fun _ => fun
  | [d1, d2, g1] => { results := [.lit (.bool true)], args := [d1, d2], vars := [g1] }
  | _ => none }
def fnExactLadderRow : OpenClaim := { program := "ytflmkgecgijncaadoor", sum := "98eb6e427b49326874e24749afee4a9bef6863b3c98e19625c7ff38416927137", func := "loop.example/pub-g03339/laws.FnExactLadder", spec := "fnExactLadder", inPlace := ["math/bits.Add64"], recurses := true, named := ["loop.example/pub-g03339/pub/field.feOne"], apart := false, laid := [("loop.example/pub-g03339/pub/field.feOne", laid_loop_example_pub_g03339_pub_field_feOne)] }
def FnExactLadderSaid : Prop := fnExactLadderRow.holds Tryd.pinned (OpenSpec.ofChange fnExactLadderSpec)

/-- ITS FALSE NEIGHBOUR: 'it returns false'. Refute it at one input. -/
def fnExactLadderWrong : ChangeSpec := { name := "fnExactLadder", vars := ["loop.example/pub-g03339/pub/field.feOne"], fn := fun _ => fun
  | [d1, d2, g1] => { results := [.lit (.bool false)], args := [d1, d2], vars := [g1] }
  | _ => none }
def FnExactLadderWrongFalsely : Prop := fnExactLadderRow.holds Tryd.pinned (OpenSpec.ofChange fnExactLadderWrong)

/-- 'laws.FnMultiple': WHATEVER THE INPUT: true; the input reads as it did. -/
def fnMultipleSpec : ChangeSpec := { name := "fnMultiple", vars := ["loop.example/pub-g03339/pub/field.feOne"], fn := fun _ => fun
  | [d1, d2, g1] => { results := [.lit (.bool true)], args := [d1, d2], vars := [g1] }
  | _ => none }
def fnMultipleRow : OpenClaim := { program := "ytflmkgecgijncaadoor", sum := "98eb6e427b49326874e24749afee4a9bef6863b3c98e19625c7ff38416927137", func := "loop.example/pub-g03339/laws.FnMultiple", spec := "fnMultiple", inPlace := ["math/bits.Add64"], recurses := true, named := ["loop.example/pub-g03339/pub/field.feOne"], apart := false, laid := [("loop.example/pub-g03339/pub/field.feOne", laid_loop_example_pub_g03339_pub_field_feOne)] }
def FnMultipleSaid : Prop := fnMultipleRow.holds Tryd.pinned (OpenSpec.ofChange fnMultipleSpec)

/-- ITS FALSE NEIGHBOUR: 'it returns false'. Refute it at one input. -/
def fnMultipleWrong : ChangeSpec := { name := "fnMultiple", vars := ["loop.example/pub-g03339/pub/field.feOne"], fn := fun _ => fun
  | [d1, d2, g1] => { results := [.lit (.bool false)], args := [d1, d2], vars := [g1] }
  | _ => none }
def FnMultipleWrongFalsely : Prop := fnMultipleRow.holds Tryd.pinned (OpenSpec.ofChange fnMultipleWrong)

/-- 'laws.FnTurns': WHATEVER THE INPUT: true; the input reads as it did. -/
def fnTurnsSpec : ChangeSpec := { name := "fnTurns", vars := ["loop.example/pub-g03339/pub/field.feOne"], fn := fun _ => fun
  | [d1, d2, d3, g1] => { results := [.lit (.bool true)], args := [d1, d2, d3], vars := [g1] }
  | _ => none }
def fnTurnsRow : OpenClaim := { program := "ytflmkgecgijncaadoor", sum := "98eb6e427b49326874e24749afee4a9bef6863b3c98e19625c7ff38416927137", func := "loop.example/pub-g03339/laws.FnTurns", spec := "fnTurns", inPlace := ["math/bits.Add64"], named := ["loop.example/pub-g03339/pub/field.feOne"], apart := false, laid := [("loop.example/pub-g03339/pub/field.feOne", laid_loop_example_pub_g03339_pub_field_feOne)] }
def FnTurnsSaid : Prop := fnTurnsRow.holds Tryd.pinned (OpenSpec.ofChange fnTurnsSpec)

/-- ITS FALSE NEIGHBOUR: 'it returns false'. Refute it at one input. -/
def fnTurnsWrong : ChangeSpec := { name := "fnTurns", vars := ["loop.example/pub-g03339/pub/field.feOne"], fn := fun _ => fun
  | [d1, d2, d3, g1] => { results := [.lit (.bool false)], args := [d1, d2, d3], vars := [g1] }
  | _ => none }
def FnTurnsWrongFalsely : Prop := fnTurnsRow.holds Tryd.pinned (OpenSpec.ofChange fnTurnsWrong)

/-- 'laws.FnExactPublic': WHATEVER THE INPUT: true; the input reads as it did. -/
def fnExactPublicSpec : ChangeSpec := { name := "fnExactPublic", vars := ["loop.example/pub-g03339/pub/field.feOne"], fn := fun _ => fun
  | [d, g1] => { results := [.lit (.bool true)], args := [d], vars := [g1] }
  | _ => none }
def fnExactPublicRow : OpenClaim := { program := "ytflmkgecgijncaadoor", sum := "98eb6e427b49326874e24749afee4a9bef6863b3c98e19625c7ff38416927137", func := "loop.example/pub-g03339/laws.FnExactPublic", spec := "fnExactPublic", inPlace := ["math/bits.Add64"], recurses := true, named := ["loop.example/pub-g03339/pub/field.feOne"], apart := false, laid := [("loop.example/pub-g03339/pub/field.feOne", laid_loop_example_pub_g03339_pub_field_feOne)] }
def FnExactPublicSaid : Prop := fnExactPublicRow.holds Tryd.pinned (OpenSpec.ofChange fnExactPublicSpec)

/-- ITS FALSE NEIGHBOUR: 'it returns false'. Refute it at one input. -/
def fnExactPublicWrong : ChangeSpec := { name := "fnExactPublic", vars := ["loop.example/pub-g03339/pub/field.feOne"], fn := fun _ => fun
  | [d, g1] => { results := [.lit (.bool false)], args := [d], vars := [g1] }
  | _ => none }
def FnExactPublicWrongFalsely : Prop := fnExactPublicRow.holds Tryd.pinned (OpenSpec.ofChange fnExactPublicWrong)

/-- 'laws.FnBeyond': WHATEVER THE INPUT: true; the input reads as it did. -/
def fnBeyondSpec : ChangeSpec := { name := "fnBeyond", vars := ["loop.example/pub-g03339/pub/field.feOne"], fn := fun _ => fun
  | [d1, d2, g1] => { results := [.lit (.bool true)], args := [d1, d2], vars := [g1] }
  | _ => none }
def fnBeyondRow : OpenClaim := { program := "ytflmkgecgijncaadoor", sum := "98eb6e427b49326874e24749afee4a9bef6863b3c98e19625c7ff38416927137", func := "loop.example/pub-g03339/laws.FnBeyond", spec := "fnBeyond", inPlace := ["math/bits.Add64"], named := ["loop.example/pub-g03339/pub/field.feOne"], apart := false, laid := [("loop.example/pub-g03339/pub/field.feOne", laid_loop_example_pub_g03339_pub_field_feOne)] }
def FnBeyondSaid : Prop := fnBeyondRow.holds Tryd.pinned (OpenSpec.ofChange fnBeyondSpec)

/-- ITS FALSE NEIGHBOUR: 'it returns false'. Refute it at one input. -/
def fnBeyondWrong : ChangeSpec := { name := "fnBeyond", vars := ["loop.example/pub-g03339/pub/field.feOne"], fn := fun _ => fun
  | [d1, d2, g1] => { results := [.lit (.bool false)], args := [d1, d2], vars := [g1] }
  | _ => none }
def FnBeyondWrongFalsely : Prop := fnBeyondRow.holds Tryd.pinned (OpenSpec.ofChange fnBeyondWrong)

/-- 'laws.FnClamped': WHATEVER THE INPUT: true; the input reads as it did. -/
def fnClampedSpec : ChangeSpec := { name := "fnClamped", vars := ["loop.example/pub-g03339/pub/field.feOne"], fn := fun _ => fun
  | [d1, d2, d3, d4, g1] => { results := [.lit (.bool true)], args := [d1, d2, d3, d4], vars := [g1] }
  | _ => none }
def fnClampedRow : OpenClaim := { program := "ytflmkgecgijncaadoor", sum := "98eb6e427b49326874e24749afee4a9bef6863b3c98e19625c7ff38416927137", func := "loop.example/pub-g03339/laws.FnClamped", spec := "fnClamped", inPlace := ["math/bits.Add64"], named := ["loop.example/pub-g03339/pub/field.feOne"], apart := false, laid := [("loop.example/pub-g03339/pub/field.feOne", laid_loop_example_pub_g03339_pub_field_feOne)] }
def FnClampedSaid : Prop := fnClampedRow.holds Tryd.pinned (OpenSpec.ofChange fnClampedSpec)

/-- ITS FALSE NEIGHBOUR: 'it returns false'. Refute it at one input. -/
def fnClampedWrong : ChangeSpec := { name := "fnClamped", vars := ["loop.example/pub-g03339/pub/field.feOne"], fn := fun _ => fun
  | [d1, d2, d3, d4, g1] => { results := [.lit (.bool false)], args := [d1, d2, d3, d4], vars := [g1] }
  | _ => none }
def FnClampedWrongFalsely : Prop := fnClampedRow.holds Tryd.pinned (OpenSpec.ofChange fnClampedWrong)

/-- 'laws.FnPublicLadder': WHATEVER THE INPUT: true; the input reads as it did. -/
def fnPublicLadderSpec : ChangeSpec := { name := "fnPublicLadder", vars := ["loop.example/pub-g03339/pub/field.feOne"], fn := fun _ => fun
  | [d, g1] => { results := [.lit (.bool true)], args := [d], vars := [g1] }
  | _ => none }
def fnPublicLadderRow : OpenClaim := { program := "ytflmkgecgijncaadoor", sum := "98eb6e427b49326874e24749afee4a9bef6863b3c98e19625c7ff38416927137", func := "loop.example/pub-g03339/laws.FnPublicLadder", spec := "fnPublicLadder", inPlace := ["math/bits.Add64"], named := ["loop.example/pub-g03339/pub/field.feOne"], apart := false, laid := [("loop.example/pub-g03339/pub/field.feOne", laid_loop_example_pub_g03339_pub_field_feOne)] }
def FnPublicLadderSaid : Prop := fnPublicLadderRow.holds Tryd.pinned (OpenSpec.ofChange fnPublicLadderSpec)

/-- ITS FALSE NEIGHBOUR: 'it returns false'. Refute it at one input. -/
def fnPublicLadderWrong : ChangeSpec := { name := "fnPublicLadder", vars := ["loop.example/pub-g03339/pub/field.feOne"], fn := fun _ => fun
  | [d, g1] => { results := [.lit (.bool false)], args := [d], vars := [g1] }
  | _ => none }
def FnPublicLadderWrongFalsely : Prop := fnPublicLadderRow.holds Tryd.pinned (OpenSpec.ofChange fnPublicLadderWrong)

/-- 'laws.FnTopBit': WHATEVER THE INPUT: true; the input reads as it did. -/
def fnTopBitSpec : ChangeSpec := { name := "fnTopBit", vars := ["loop.example/pub-g03339/pub/field.feOne"], fn := fun _ => fun
  | [d1, d2, g1] => { results := [.lit (.bool true)], args := [d1, d2], vars := [g1] }
  | _ => none }
def fnTopBitRow : OpenClaim := { program := "ytflmkgecgijncaadoor", sum := "98eb6e427b49326874e24749afee4a9bef6863b3c98e19625c7ff38416927137", func := "loop.example/pub-g03339/laws.FnTopBit", spec := "fnTopBit", inPlace := ["math/bits.Add64"], named := ["loop.example/pub-g03339/pub/field.feOne"], apart := false, laid := [("loop.example/pub-g03339/pub/field.feOne", laid_loop_example_pub_g03339_pub_field_feOne)] }
def FnTopBitSaid : Prop := fnTopBitRow.holds Tryd.pinned (OpenSpec.ofChange fnTopBitSpec)

/-- ITS FALSE NEIGHBOUR: 'it returns false'. Refute it at one input. -/
def fnTopBitWrong : ChangeSpec := { name := "fnTopBit", vars := ["loop.example/pub-g03339/pub/field.feOne"], fn := fun _ => fun
  | [d1, d2, g1] => { results := [.lit (.bool false)], args := [d1, d2], vars := [g1] }
  | _ => none }
def FnTopBitWrongFalsely : Prop := fnTopBitRow.holds Tryd.pinned (OpenSpec.ofChange fnTopBitWrong)

/-- 'laws.FnExactShared': WHATEVER THE INPUT: true; the input reads as it did. -/
def fnExactSharedSpec : ChangeSpec := { name := "fnExactShared", vars := ["loop.example/pub-g03339/pub/field.feOne"], fn := fun _ => fun
  | [d1, d2, g1] => { results := [.lit (.bool true)], args := [d1, d2], vars := [g1] }
  | _ => none }
def fnExactSharedRow : OpenClaim := { program := "ytflmkgecgijncaadoor", sum := "98eb6e427b49326874e24749afee4a9bef6863b3c98e19625c7ff38416927137", func := "loop.example/pub-g03339/laws.FnExactShared", spec := "fnExactShared", inPlace := ["math/bits.Add64"], recurses := true, named := ["loop.example/pub-g03339/pub/field.feOne"], apart := false, laid := [("loop.example/pub-g03339/pub/field.feOne", laid_loop_example_pub_g03339_pub_field_feOne)] }
def FnExactSharedSaid : Prop := fnExactSharedRow.holds Tryd.pinned (OpenSpec.ofChange fnExactSharedSpec)

/-- ITS FALSE NEIGHBOUR: 'it returns false'. Refute it at one input. -/
def fnExactSharedWrong : ChangeSpec := { name := "fnExactShared", vars := ["loop.example/pub-g03339/pub/field.feOne"], fn := fun _ => fun
  | [d1, d2, g1] => { results := [.lit (.bool false)], args := [d1, d2], vars := [g1] }
  | _ => none }
def FnExactSharedWrongFalsely : Prop := fnExactSharedRow.holds Tryd.pinned (OpenSpec.ofChange fnExactSharedWrong)

/-- 'laws.FnFew': WHATEVER THE INPUT: true; the input reads as it did. -/
def fnFewSpec : ChangeSpec := { name := "fnFew", vars := ["loop.example/pub-g03339/pub/field.feOne"], fn := fun _ => fun
  | [d1, d2, g1] => { results := [.lit (.bool true)], args := [d1, d2], vars := [g1] }
  | _ => none }
def fnFewRow : OpenClaim := { program := "ytflmkgecgijncaadoor", sum := "98eb6e427b49326874e24749afee4a9bef6863b3c98e19625c7ff38416927137", func := "loop.example/pub-g03339/laws.FnFew", spec := "fnFew", inPlace := ["math/bits.Add64"], named := ["loop.example/pub-g03339/pub/field.feOne"], apart := false, laid := [("loop.example/pub-g03339/pub/field.feOne", laid_loop_example_pub_g03339_pub_field_feOne)] }
def FnFewSaid : Prop := fnFewRow.holds Tryd.pinned (OpenSpec.ofChange fnFewSpec)

/-- ITS FALSE NEIGHBOUR: 'it returns false'. Refute it at one input. -/
def fnFewWrong : ChangeSpec := { name := "fnFew", vars := ["loop.example/pub-g03339/pub/field.feOne"], fn := fun _ => fun
  | [d1, d2, g1] => { results := [.lit (.bool false)], args := [d1, d2], vars := [g1] }
  | _ => none }
def FnFewWrongFalsely : Prop := fnFewRow.holds Tryd.pinned (OpenSpec.ofChange fnFewWrong)

/-- 'laws.FnSharedLadder': WHATEVER THE INPUT: true; the input reads as it did. -/
def fnSharedLadderSpec : ChangeSpec := { name := "fnSharedLadder", vars := ["loop.example/pub-g03339/pub/field.feOne"], fn := fun _ => fun
  | [d1, d2, g1] => { results := [.lit (.bool true)], args := [d1, d2], vars := [g1] }
  | _ => none }
def fnSharedLadderRow : OpenClaim := { program := "ytflmkgecgijncaadoor", sum := "98eb6e427b49326874e24749afee4a9bef6863b3c98e19625c7ff38416927137", func := "loop.example/pub-g03339/laws.FnSharedLadder", spec := "fnSharedLadder", inPlace := ["math/bits.Add64"], named := ["loop.example/pub-g03339/pub/field.feOne"], apart := false, laid := [("loop.example/pub-g03339/pub/field.feOne", laid_loop_example_pub_g03339_pub_field_feOne)] }
def FnSharedLadderSaid : Prop := fnSharedLadderRow.holds Tryd.pinned (OpenSpec.ofChange fnSharedLadderSpec)

/-- ITS FALSE NEIGHBOUR: 'it returns false'. Refute it at one input. -/
def fnSharedLadderWrong : ChangeSpec := { name := "fnSharedLadder", vars := ["loop.example/pub-g03339/pub/field.feOne"], fn := fun _ => fun
  | [d1, d2, g1] => { results := [.lit (.bool false)], args := [d1, d2], vars := [g1] }
  | _ => none }
def FnSharedLadderWrongFalsely : Prop := fnSharedLadderRow.holds Tryd.pinned (OpenSpec.ofChange fnSharedLadderWrong)

/-- 'laws.FnAgree': WHATEVER THE INPUT: true; the input reads as it did. -/
def fnAgreeSpec : ChangeSpec := { name := "fnAgree", vars := ["loop.example/pub-g03339/pub/field.feOne"], fn := fun _ => fun
  | [d1, d2, g1] => { results := [.lit (.bool true)], args := [d1, d2], vars := [g1] }
  | _ => none }
def fnAgreeRow : OpenClaim := { program := "ytflmkgecgijncaadoor", sum := "98eb6e427b49326874e24749afee4a9bef6863b3c98e19625c7ff38416927137", func := "loop.example/pub-g03339/laws.FnAgree", spec := "fnAgree", inPlace := ["math/bits.Add64"], named := ["loop.example/pub-g03339/pub/field.feOne"], apart := false, laid := [("loop.example/pub-g03339/pub/field.feOne", laid_loop_example_pub_g03339_pub_field_feOne)] }
def FnAgreeSaid : Prop := fnAgreeRow.holds Tryd.pinned (OpenSpec.ofChange fnAgreeSpec)

/-- ITS FALSE NEIGHBOUR: 'it returns false'. Refute it at one input. -/
def fnAgreeWrong : ChangeSpec := { name := "fnAgree", vars := ["loop.example/pub-g03339/pub/field.feOne"], fn := fun _ => fun
  | [d1, d2, g1] => { results := [.lit (.bool false)], args := [d1, d2], vars := [g1] }
  | _ => none }
def FnAgreeWrongFalsely : Prop := fnAgreeRow.holds Tryd.pinned (OpenSpec.ofChange fnAgreeWrong)

/-- 'laws.FnExactParse': WHATEVER THE INPUT: true; the input reads as it did. -/
def fnExactParseSpec : ChangeSpec := { name := "fnExactParse", vars := ["loop.example/pub-g03339/pub/field.feOne", "loop.example/pub-g03339/pub/field.sqrtM1", "loop.example/pub-g03339/pub/field.feZero"], fn := fun _ => fun
  | [d, g1, g2, g3] => { results := [.lit (.bool true)], args := [d], vars := [g1, g2, g3] }
  | _ => none }
def fnExactParseRow : OpenClaim := { program := "ytflmkgecgijncaadoor", sum := "98eb6e427b49326874e24749afee4a9bef6863b3c98e19625c7ff38416927137", func := "loop.example/pub-g03339/laws.FnExactParse", spec := "fnExactParse", inPlace := ["math/bits.Add64"], recurses := true, named := ["internal/strconv.uint64pow10", "math/bits.deBruijn32tab", "math/bits.deBruijn64tab", "loop.example/pub-g03339/pub/field.feOne", "loop.example/pub-g03339/pub/field.sqrtM1", "loop.example/pub-g03339/pub/field.feZero"], apart := false, laid := [("math/bits.deBruijn32tab", laid_math_bits_deBruijn32tab), ("math/bits.deBruijn64tab", laid_math_bits_deBruijn64tab), ("internal/strconv.uint64pow10", laid_internal_strconv_uint64pow10), ("loop.example/pub-g03339/pub/field.feZero", laid_loop_example_pub_g03339_pub_field_feZero), ("loop.example/pub-g03339/pub/field.feOne", laid_loop_example_pub_g03339_pub_field_feOne), ("loop.example/pub-g03339/pub/field.sqrtM1", laid_loop_example_pub_g03339_pub_field_sqrtM1)] }
def FnExactParseSaid : Prop := fnExactParseRow.holds Tryd.pinned (OpenSpec.ofChange fnExactParseSpec)

/-- ITS FALSE NEIGHBOUR: 'it returns false'. Refute it at one input. -/
def fnExactParseWrong : ChangeSpec := { name := "fnExactParse", vars := ["loop.example/pub-g03339/pub/field.feOne", "loop.example/pub-g03339/pub/field.sqrtM1", "loop.example/pub-g03339/pub/field.feZero"], fn := fun _ => fun
  | [d, g1, g2, g3] => { results := [.lit (.bool false)], args := [d], vars := [g1, g2, g3] }
  | _ => none }
def FnExactParseWrongFalsely : Prop := fnExactParseRow.holds Tryd.pinned (OpenSpec.ofChange fnExactParseWrong)

/- THE SECOND FORM. 'bulk': how many values and letters a reading holds, each counted each time it is reached (what is shared counts as often as it is met; a slice's spare places count too). A statement '..UptoSaid' is the law's where the arguments, and the package variables that the reading takes, are together of bulk at most 1048576: NARROWER than '..Said'. Prove '..Said' where nothing that the law and all that it calls make is longer than what came in: it says more and counts as full. Else prove '..UptoSaid'. A law counts once. -/
mutual
def uptoBulk {H : Type} : DataW H → Nat
  | .lit (.string bytes) => bytes.length + 1
  | .lit _ => 1
  | .nil => 1
  | .ptr d => uptoBulk d + 1
  | .slice elems spare => uptoBulkAll elems + uptoBulkAll spare + 1
  | .agg parts => uptoBulkAll parts + 1
  | .iface _ d => uptoBulk d + 1
  | .map entries => uptoBulkEntries entries + 1
  | .held _ => 1
def uptoBulkAll {H : Type} : List (DataW H) → Nat
  | [] => 0
  | d :: r => uptoBulk d + uptoBulkAll r
def uptoBulkEntries {H : Type} : List (Lit × DataW H) → Nat
  | [] => 0
  | x :: r => uptoBulkEntry x + uptoBulkEntries r
def uptoBulkEntry {H : Type} : Lit × DataW H → Nat
  | (.string bytes, d) => bytes.length + uptoBulk d + 1
  | (_, d) => uptoBulk d + 1
 end
def uptoSmall : (H : Type) → List (DataW H) → Bool := fun _ ds => decide (uptoBulkAll ds ≤ 1048576)
def OpenSpec.upto (s : _root_.Go.ChangeSpec) : _root_.Go.OpenSpec := { _root_.Go.OpenSpec.ofChange s with cond := some uptoSmall }

/-- 'laws.FnExactLadder', WHERE WHAT IT READS IS OF BULK AT MOST 1048576: true; the input reads as it did. -/
def fnExactLadderUptoRow : OpenClaim := { program := "ytflmkgecgijncaadoor", sum := "98eb6e427b49326874e24749afee4a9bef6863b3c98e19625c7ff38416927137", func := "loop.example/pub-g03339/laws.FnExactLadder", spec := "fnExactLadder", inPlace := ["math/bits.Add64"], recurses := true, named := ["loop.example/pub-g03339/pub/field.feOne"], apart := false, laid := [("loop.example/pub-g03339/pub/field.feOne", laid_loop_example_pub_g03339_pub_field_feOne)], narrowed := true }
def FnExactLadderUptoSaid : Prop := fnExactLadderUptoRow.holds Tryd.pinned (OpenSpec.upto fnExactLadderSpec)

/-- 'laws.FnMultiple', WHERE WHAT IT READS IS OF BULK AT MOST 1048576: true; the input reads as it did. -/
def fnMultipleUptoRow : OpenClaim := { program := "ytflmkgecgijncaadoor", sum := "98eb6e427b49326874e24749afee4a9bef6863b3c98e19625c7ff38416927137", func := "loop.example/pub-g03339/laws.FnMultiple", spec := "fnMultiple", inPlace := ["math/bits.Add64"], recurses := true, named := ["loop.example/pub-g03339/pub/field.feOne"], apart := false, laid := [("loop.example/pub-g03339/pub/field.feOne", laid_loop_example_pub_g03339_pub_field_feOne)], narrowed := true }
def FnMultipleUptoSaid : Prop := fnMultipleUptoRow.holds Tryd.pinned (OpenSpec.upto fnMultipleSpec)

/-- 'laws.FnTurns', WHERE WHAT IT READS IS OF BULK AT MOST 1048576: true; the input reads as it did. -/
def fnTurnsUptoRow : OpenClaim := { program := "ytflmkgecgijncaadoor", sum := "98eb6e427b49326874e24749afee4a9bef6863b3c98e19625c7ff38416927137", func := "loop.example/pub-g03339/laws.FnTurns", spec := "fnTurns", inPlace := ["math/bits.Add64"], named := ["loop.example/pub-g03339/pub/field.feOne"], apart := false, laid := [("loop.example/pub-g03339/pub/field.feOne", laid_loop_example_pub_g03339_pub_field_feOne)], narrowed := true }
def FnTurnsUptoSaid : Prop := fnTurnsUptoRow.holds Tryd.pinned (OpenSpec.upto fnTurnsSpec)

/-- 'laws.FnExactPublic', WHERE WHAT IT READS IS OF BULK AT MOST 1048576: true; the input reads as it did. -/
def fnExactPublicUptoRow : OpenClaim := { program := "ytflmkgecgijncaadoor", sum := "98eb6e427b49326874e24749afee4a9bef6863b3c98e19625c7ff38416927137", func := "loop.example/pub-g03339/laws.FnExactPublic", spec := "fnExactPublic", inPlace := ["math/bits.Add64"], recurses := true, named := ["loop.example/pub-g03339/pub/field.feOne"], apart := false, laid := [("loop.example/pub-g03339/pub/field.feOne", laid_loop_example_pub_g03339_pub_field_feOne)], narrowed := true }
def FnExactPublicUptoSaid : Prop := fnExactPublicUptoRow.holds Tryd.pinned (OpenSpec.upto fnExactPublicSpec)

/-- 'laws.FnBeyond', WHERE WHAT IT READS IS OF BULK AT MOST 1048576: true; the input reads as it did. -/
def fnBeyondUptoRow : OpenClaim := { program := "ytflmkgecgijncaadoor", sum := "98eb6e427b49326874e24749afee4a9bef6863b3c98e19625c7ff38416927137", func := "loop.example/pub-g03339/laws.FnBeyond", spec := "fnBeyond", inPlace := ["math/bits.Add64"], named := ["loop.example/pub-g03339/pub/field.feOne"], apart := false, laid := [("loop.example/pub-g03339/pub/field.feOne", laid_loop_example_pub_g03339_pub_field_feOne)], narrowed := true }
def FnBeyondUptoSaid : Prop := fnBeyondUptoRow.holds Tryd.pinned (OpenSpec.upto fnBeyondSpec)

/-- 'laws.FnClamped', WHERE WHAT IT READS IS OF BULK AT MOST 1048576: true; the input reads as it did. -/
def fnClampedUptoRow : OpenClaim := { program := "ytflmkgecgijncaadoor", sum := "98eb6e427b49326874e24749afee4a9bef6863b3c98e19625c7ff38416927137", func := "loop.example/pub-g03339/laws.FnClamped", spec := "fnClamped", inPlace := ["math/bits.Add64"], named := ["loop.example/pub-g03339/pub/field.feOne"], apart := false, laid := [("loop.example/pub-g03339/pub/field.feOne", laid_loop_example_pub_g03339_pub_field_feOne)], narrowed := true }
def FnClampedUptoSaid : Prop := fnClampedUptoRow.holds Tryd.pinned (OpenSpec.upto fnClampedSpec)

/-- 'laws.FnPublicLadder', WHERE WHAT IT READS IS OF BULK AT MOST 1048576: true; the input reads as it did. -/
def fnPublicLadderUptoRow : OpenClaim := { program := "ytflmkgecgijncaadoor", sum := "98eb6e427b49326874e24749afee4a9bef6863b3c98e19625c7ff38416927137", func := "loop.example/pub-g03339/laws.FnPublicLadder", spec := "fnPublicLadder", inPlace := ["math/bits.Add64"], named := ["loop.example/pub-g03339/pub/field.feOne"], apart := false, laid := [("loop.example/pub-g03339/pub/field.feOne", laid_loop_example_pub_g03339_pub_field_feOne)], narrowed := true }
def FnPublicLadderUptoSaid : Prop := fnPublicLadderUptoRow.holds Tryd.pinned (OpenSpec.upto fnPublicLadderSpec)

/-- 'laws.FnTopBit', WHERE WHAT IT READS IS OF BULK AT MOST 1048576: true; the input reads as it did. -/
def fnTopBitUptoRow : OpenClaim := { program := "ytflmkgecgijncaadoor", sum := "98eb6e427b49326874e24749afee4a9bef6863b3c98e19625c7ff38416927137", func := "loop.example/pub-g03339/laws.FnTopBit", spec := "fnTopBit", inPlace := ["math/bits.Add64"], named := ["loop.example/pub-g03339/pub/field.feOne"], apart := false, laid := [("loop.example/pub-g03339/pub/field.feOne", laid_loop_example_pub_g03339_pub_field_feOne)], narrowed := true }
def FnTopBitUptoSaid : Prop := fnTopBitUptoRow.holds Tryd.pinned (OpenSpec.upto fnTopBitSpec)

/-- 'laws.FnExactShared', WHERE WHAT IT READS IS OF BULK AT MOST 1048576: true; the input reads as it did. -/
def fnExactSharedUptoRow : OpenClaim := { program := "ytflmkgecgijncaadoor", sum := "98eb6e427b49326874e24749afee4a9bef6863b3c98e19625c7ff38416927137", func := "loop.example/pub-g03339/laws.FnExactShared", spec := "fnExactShared", inPlace := ["math/bits.Add64"], recurses := true, named := ["loop.example/pub-g03339/pub/field.feOne"], apart := false, laid := [("loop.example/pub-g03339/pub/field.feOne", laid_loop_example_pub_g03339_pub_field_feOne)], narrowed := true }
def FnExactSharedUptoSaid : Prop := fnExactSharedUptoRow.holds Tryd.pinned (OpenSpec.upto fnExactSharedSpec)

/-- 'laws.FnFew', WHERE WHAT IT READS IS OF BULK AT MOST 1048576: true; the input reads as it did. -/
def fnFewUptoRow : OpenClaim := { program := "ytflmkgecgijncaadoor", sum := "98eb6e427b49326874e24749afee4a9bef6863b3c98e19625c7ff38416927137", func := "loop.example/pub-g03339/laws.FnFew", spec := "fnFew", inPlace := ["math/bits.Add64"], named := ["loop.example/pub-g03339/pub/field.feOne"], apart := false, laid := [("loop.example/pub-g03339/pub/field.feOne", laid_loop_example_pub_g03339_pub_field_feOne)], narrowed := true }
def FnFewUptoSaid : Prop := fnFewUptoRow.holds Tryd.pinned (OpenSpec.upto fnFewSpec)

/-- 'laws.FnSharedLadder', WHERE WHAT IT READS IS OF BULK AT MOST 1048576: true; the input reads as it did. -/
def fnSharedLadderUptoRow : OpenClaim := { program := "ytflmkgecgijncaadoor", sum := "98eb6e427b49326874e24749afee4a9bef6863b3c98e19625c7ff38416927137", func := "loop.example/pub-g03339/laws.FnSharedLadder", spec := "fnSharedLadder", inPlace := ["math/bits.Add64"], named := ["loop.example/pub-g03339/pub/field.feOne"], apart := false, laid := [("loop.example/pub-g03339/pub/field.feOne", laid_loop_example_pub_g03339_pub_field_feOne)], narrowed := true }
def FnSharedLadderUptoSaid : Prop := fnSharedLadderUptoRow.holds Tryd.pinned (OpenSpec.upto fnSharedLadderSpec)

/-- 'laws.FnAgree', WHERE WHAT IT READS IS OF BULK AT MOST 1048576: true; the input reads as it did. -/
def fnAgreeUptoRow : OpenClaim := { program := "ytflmkgecgijncaadoor", sum := "98eb6e427b49326874e24749afee4a9bef6863b3c98e19625c7ff38416927137", func := "loop.example/pub-g03339/laws.FnAgree", spec := "fnAgree", inPlace := ["math/bits.Add64"], named := ["loop.example/pub-g03339/pub/field.feOne"], apart := false, laid := [("loop.example/pub-g03339/pub/field.feOne", laid_loop_example_pub_g03339_pub_field_feOne)], narrowed := true }
def FnAgreeUptoSaid : Prop := fnAgreeUptoRow.holds Tryd.pinned (OpenSpec.upto fnAgreeSpec)

/-- 'laws.FnExactParse', WHERE WHAT IT READS IS OF BULK AT MOST 1048576: true; the input reads as it did. -/
def fnExactParseUptoRow : OpenClaim := { program := "ytflmkgecgijncaadoor", sum := "98eb6e427b49326874e24749afee4a9bef6863b3c98e19625c7ff38416927137", func := "loop.example/pub-g03339/laws.FnExactParse", spec := "fnExactParse", inPlace := ["math/bits.Add64"], recurses := true, named := ["internal/strconv.uint64pow10", "math/bits.deBruijn32tab", "math/bits.deBruijn64tab", "loop.example/pub-g03339/pub/field.feOne", "loop.example/pub-g03339/pub/field.sqrtM1", "loop.example/pub-g03339/pub/field.feZero"], apart := false, laid := [("math/bits.deBruijn32tab", laid_math_bits_deBruijn32tab), ("math/bits.deBruijn64tab", laid_math_bits_deBruijn64tab), ("internal/strconv.uint64pow10", laid_internal_strconv_uint64pow10), ("loop.example/pub-g03339/pub/field.feZero", laid_loop_example_pub_g03339_pub_field_feZero), ("loop.example/pub-g03339/pub/field.feOne", laid_loop_example_pub_g03339_pub_field_feOne), ("loop.example/pub-g03339/pub/field.sqrtM1", laid_loop_example_pub_g03339_pub_field_sqrtM1)], narrowed := true }
def FnExactParseUptoSaid : Prop := fnExactParseUptoRow.holds Tryd.pinned (OpenSpec.upto fnExactParseSpec)

end Rows
end Go.Proofs.YtflmkgecgijncaaDoor
