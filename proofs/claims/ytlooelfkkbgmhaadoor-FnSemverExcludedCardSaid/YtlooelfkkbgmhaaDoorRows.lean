/-
  NARROWER THAN 'FOR EVERY INPUT', by the rows' own cells (each row's printed sentence says how): FnSemverIncPatch: laid · FnSemverPart: laid · FnSemverPreTail: laid · FnSemverOrderNames: laid · FnSemverMostHolds: laid · FnSemverMostCompares: laid · FnSemverIncRun: laid · FnSemverOneOf: laid · FnSemverTermConvex: laid · FnSemverTermFewer: laid · FnSemverTermCompares: laid · FnSemverExcluded: laid · FnSemverLandingPre: laid · FnSemverTermsOpposite: laid.
  DERIVED. THE GIVEN ROWS OF THIS SEAT. 14 by the template 'for every input the law returns true; each argument reads behind the call as it read before'; 0 by the template 'total and deterministic' (their statements: YtlooelfkkbgmhaaDoorTotals.lean).
  GIVEN WITH THE SEED: the statements are not yours to turn. If you find one false, say at which input.
  Laid BY PROGRAM, IN A SANDBOX (cutbox-rows.mjs): the forced cells as the released guide's own fill.sh prints them over the translation d294749c82d32c10… (all of the seat's roots in one cut). By AI agents, Wed Nov 11 2026. No macro, syntax, notation, axiom, sorry.
-/
import Derived.Test.YtlooelfkkbgmhaaDoorChecked
import GoSem.Claim
import GoSem.ClaimJoined
import GoSem.ClaimMapViews
import Derived.JoinedTies
import Derived.KernelRfl
namespace Go.Proofs.YtlooelfkkbgmhaaDoor
/- THE CELL 'sum', in the pinned program and in every row, IS THE sha256 OF THE DUMP (.gsa) THAT YtlooelfkkbgmhaaDoorProg.lean LOADS. Nothing in Lean hashes anything: it is a label: what it is worth is what the hold of that sum in a sandbox is worth. -/
noncomputable def Tryd.pinned : Pinned := { name := "ytlooelfkkbgmhaadoor", sum := "d294749c82d32c10a94da91e66f73777e3fffe5b7269dc53e70684e0005e8c63", checked := Tryd.checked }
namespace Rows
def none {H : Type} : Left H := { results := [], args := [] }

/- WHAT THE LISTED PACKAGE-LEVEL VARIABLES READ AS WHEN THE CALL BEGINS. Each datum BY PROGRAM (the guide's laid-datum.mjs) off the statement by which the dump's own 'gosem.cut.vars' lays the variable. In a bare row this is a premise. The card (YtlooelfkkbgmhaaDoorCards.lean) ties it to the program's text. -/
def laid_math_bits_deBruijn32tab {H : Type} : DataW H := .agg [.lit (.int .u8 0), .lit (.int .u8 1), .lit (.int .u8 28), .lit (.int .u8 2), .lit (.int .u8 29), .lit (.int .u8 14), .lit (.int .u8 24), .lit (.int .u8 3), .lit (.int .u8 30), .lit (.int .u8 22), .lit (.int .u8 20), .lit (.int .u8 15), .lit (.int .u8 25), .lit (.int .u8 17), .lit (.int .u8 4), .lit (.int .u8 8), .lit (.int .u8 31), .lit (.int .u8 27), .lit (.int .u8 13), .lit (.int .u8 23), .lit (.int .u8 21), .lit (.int .u8 19), .lit (.int .u8 16), .lit (.int .u8 7), .lit (.int .u8 26), .lit (.int .u8 12), .lit (.int .u8 18), .lit (.int .u8 6), .lit (.int .u8 11), .lit (.int .u8 5), .lit (.int .u8 10), .lit (.int .u8 9)]
def laid_math_bits_deBruijn64tab {H : Type} : DataW H := .agg [.lit (.int .u8 0), .lit (.int .u8 1), .lit (.int .u8 56), .lit (.int .u8 2), .lit (.int .u8 57), .lit (.int .u8 49), .lit (.int .u8 28), .lit (.int .u8 3), .lit (.int .u8 61), .lit (.int .u8 58), .lit (.int .u8 42), .lit (.int .u8 50), .lit (.int .u8 38), .lit (.int .u8 29), .lit (.int .u8 17), .lit (.int .u8 4), .lit (.int .u8 62), .lit (.int .u8 47), .lit (.int .u8 59), .lit (.int .u8 36), .lit (.int .u8 45), .lit (.int .u8 43), .lit (.int .u8 51), .lit (.int .u8 22), .lit (.int .u8 53), .lit (.int .u8 39), .lit (.int .u8 33), .lit (.int .u8 30), .lit (.int .u8 24), .lit (.int .u8 18), .lit (.int .u8 12), .lit (.int .u8 5), .lit (.int .u8 63), .lit (.int .u8 55), .lit (.int .u8 48), .lit (.int .u8 27), .lit (.int .u8 60), .lit (.int .u8 41), .lit (.int .u8 37), .lit (.int .u8 16), .lit (.int .u8 46), .lit (.int .u8 35), .lit (.int .u8 44), .lit (.int .u8 21), .lit (.int .u8 52), .lit (.int .u8 32), .lit (.int .u8 23), .lit (.int .u8 11), .lit (.int .u8 54), .lit (.int .u8 26), .lit (.int .u8 40), .lit (.int .u8 15), .lit (.int .u8 34), .lit (.int .u8 20), .lit (.int .u8 31), .lit (.int .u8 10), .lit (.int .u8 25), .lit (.int .u8 14), .lit (.int .u8 19), .lit (.int .u8 9), .lit (.int .u8 13), .lit (.int .u8 8), .lit (.int .u8 7), .lit (.int .u8 6)]
def laid_internal_strconv_uint64pow10 {H : Type} : DataW H := .agg [.lit (.int .u64 1), .lit (.int .u64 10), .lit (.int .u64 100), .lit (.int .u64 1000), .lit (.int .u64 10000), .lit (.int .u64 100000), .lit (.int .u64 1000000), .lit (.int .u64 10000000), .lit (.int .u64 100000000), .lit (.int .u64 1000000000), .lit (.int .u64 10000000000), .lit (.int .u64 100000000000), .lit (.int .u64 1000000000000), .lit (.int .u64 10000000000000), .lit (.int .u64 100000000000000), .lit (.int .u64 1000000000000000), .lit (.int .u64 10000000000000000), .lit (.int .u64 100000000000000000), .lit (.int .u64 1000000000000000000), .lit (.int .u64 10000000000000000000)]
def laid_strconv_ErrRange {H : Type} : DataW H := .iface "*errors.errorString" (.ptr (.agg [.lit (.string [118, 97, 108, 117, 101, 32, 111, 117, 116, 32, 111, 102, 32, 114, 97, 110, 103, 101])]))
def laid_strconv_ErrSyntax {H : Type} : DataW H := .iface "*errors.errorString" (.ptr (.agg [.lit (.string [105, 110, 118, 97, 108, 105, 100, 32, 115, 121, 110, 116, 97, 120])]))

/-- 'laws.FnSemverIncPatch': WHATEVER THE INPUT: true; the input reads as it did. -/
def fnSemverIncPatchSpec : ChangeSpec := { name := "fnSemverIncPatch", fn := fun _ => fun
  | [d] => { results := [.lit (.bool true)], args := [d] }
  | _ => none }
def fnSemverIncPatchRow : OpenClaim := { program := "ytlooelfkkbgmhaadoor", sum := "d294749c82d32c10a94da91e66f73777e3fffe5b7269dc53e70684e0005e8c63", func := "pub-timebook/laws.FnSemverIncPatch", spec := "fnSemverIncPatch", named := ["internal/strconv.uint64pow10", "math/bits.deBruijn32tab", "math/bits.deBruijn64tab"], apart := false, laid := [("math/bits.deBruijn32tab", laid_math_bits_deBruijn32tab), ("math/bits.deBruijn64tab", laid_math_bits_deBruijn64tab), ("internal/strconv.uint64pow10", laid_internal_strconv_uint64pow10)] }
def FnSemverIncPatchSaid : Prop := fnSemverIncPatchRow.holds Tryd.pinned (OpenSpec.ofChange fnSemverIncPatchSpec)

/-- ITS FALSE NEIGHBOUR: 'it returns false'. Refute it at one input. -/
def fnSemverIncPatchWrong : ChangeSpec := { name := "fnSemverIncPatch", fn := fun _ => fun
  | [d] => { results := [.lit (.bool false)], args := [d] }
  | _ => none }
def FnSemverIncPatchWrongFalsely : Prop := fnSemverIncPatchRow.holds Tryd.pinned (OpenSpec.ofChange fnSemverIncPatchWrong)

/-- 'laws.FnSemverPart': WHATEVER THE INPUT: true; the input reads as it did. -/
def fnSemverPartSpec : ChangeSpec := { name := "fnSemverPart", fn := fun _ => fun
  | [d1, d2] => { results := [.lit (.bool true)], args := [d1, d2] }
  | _ => none }
def fnSemverPartRow : OpenClaim := { program := "ytlooelfkkbgmhaadoor", sum := "d294749c82d32c10a94da91e66f73777e3fffe5b7269dc53e70684e0005e8c63", func := "pub-timebook/laws.FnSemverPart", spec := "fnSemverPart", named := ["strconv.ErrSyntax", "strconv.ErrRange", "internal/strconv.uint64pow10", "math/bits.deBruijn32tab", "math/bits.deBruijn64tab"], apart := false, laid := [("math/bits.deBruijn32tab", laid_math_bits_deBruijn32tab), ("math/bits.deBruijn64tab", laid_math_bits_deBruijn64tab), ("internal/strconv.uint64pow10", laid_internal_strconv_uint64pow10), ("strconv.ErrRange", laid_strconv_ErrRange), ("strconv.ErrSyntax", laid_strconv_ErrSyntax)] }
def FnSemverPartSaid : Prop := fnSemverPartRow.holds Tryd.pinned (OpenSpec.ofChange fnSemverPartSpec)

/-- ITS FALSE NEIGHBOUR: 'it returns false'. Refute it at one input. -/
def fnSemverPartWrong : ChangeSpec := { name := "fnSemverPart", fn := fun _ => fun
  | [d1, d2] => { results := [.lit (.bool false)], args := [d1, d2] }
  | _ => none }
def FnSemverPartWrongFalsely : Prop := fnSemverPartRow.holds Tryd.pinned (OpenSpec.ofChange fnSemverPartWrong)

/-- 'laws.FnSemverPreTail': WHATEVER THE INPUT: true; the input reads as it did. -/
def fnSemverPreTailSpec : ChangeSpec := { name := "fnSemverPreTail", fn := fun _ => fun
  | [d1, d2, d3, d4] => { results := [.lit (.bool true)], args := [d1, d2, d3, d4] }
  | _ => none }
def fnSemverPreTailRow : OpenClaim := { program := "ytlooelfkkbgmhaadoor", sum := "d294749c82d32c10a94da91e66f73777e3fffe5b7269dc53e70684e0005e8c63", func := "pub-timebook/laws.FnSemverPreTail", spec := "fnSemverPreTail", named := ["strconv.ErrSyntax", "strconv.ErrRange", "internal/strconv.uint64pow10", "math/bits.deBruijn32tab", "math/bits.deBruijn64tab"], apart := false, laid := [("math/bits.deBruijn32tab", laid_math_bits_deBruijn32tab), ("math/bits.deBruijn64tab", laid_math_bits_deBruijn64tab), ("internal/strconv.uint64pow10", laid_internal_strconv_uint64pow10), ("strconv.ErrRange", laid_strconv_ErrRange), ("strconv.ErrSyntax", laid_strconv_ErrSyntax)] }
def FnSemverPreTailSaid : Prop := fnSemverPreTailRow.holds Tryd.pinned (OpenSpec.ofChange fnSemverPreTailSpec)

/-- ITS FALSE NEIGHBOUR: 'it returns false'. Refute it at one input. -/
def fnSemverPreTailWrong : ChangeSpec := { name := "fnSemverPreTail", fn := fun _ => fun
  | [d1, d2, d3, d4] => { results := [.lit (.bool false)], args := [d1, d2, d3, d4] }
  | _ => none }
def FnSemverPreTailWrongFalsely : Prop := fnSemverPreTailRow.holds Tryd.pinned (OpenSpec.ofChange fnSemverPreTailWrong)

/-- 'laws.FnSemverOrderNames': WHATEVER THE INPUT: true; the input reads as it did. -/
def fnSemverOrderNamesSpec : ChangeSpec := { name := "fnSemverOrderNames", fn := fun _ => fun
  | [d1, d2] => { results := [.lit (.bool true)], args := [d1, d2] }
  | _ => none }
def fnSemverOrderNamesRow : OpenClaim := { program := "ytlooelfkkbgmhaadoor", sum := "d294749c82d32c10a94da91e66f73777e3fffe5b7269dc53e70684e0005e8c63", func := "pub-timebook/laws.FnSemverOrderNames", spec := "fnSemverOrderNames", named := ["strconv.ErrSyntax", "strconv.ErrRange", "internal/strconv.uint64pow10", "math/bits.deBruijn32tab", "math/bits.deBruijn64tab"], apart := false, laid := [("math/bits.deBruijn32tab", laid_math_bits_deBruijn32tab), ("math/bits.deBruijn64tab", laid_math_bits_deBruijn64tab), ("internal/strconv.uint64pow10", laid_internal_strconv_uint64pow10), ("strconv.ErrRange", laid_strconv_ErrRange), ("strconv.ErrSyntax", laid_strconv_ErrSyntax)] }
def FnSemverOrderNamesSaid : Prop := fnSemverOrderNamesRow.holds Tryd.pinned (OpenSpec.ofChange fnSemverOrderNamesSpec)

/-- ITS FALSE NEIGHBOUR: 'it returns false'. Refute it at one input. -/
def fnSemverOrderNamesWrong : ChangeSpec := { name := "fnSemverOrderNames", fn := fun _ => fun
  | [d1, d2] => { results := [.lit (.bool false)], args := [d1, d2] }
  | _ => none }
def FnSemverOrderNamesWrongFalsely : Prop := fnSemverOrderNamesRow.holds Tryd.pinned (OpenSpec.ofChange fnSemverOrderNamesWrong)

/-- 'laws.FnSemverMostHolds': WHATEVER THE INPUT: true; the input reads as it did. -/
def fnSemverMostHoldsSpec : ChangeSpec := { name := "fnSemverMostHolds", fn := fun _ => fun
  | [d1, d2, d3] => { results := [.lit (.bool true)], args := [d1, d2, d3] }
  | _ => none }
def fnSemverMostHoldsRow : OpenClaim := { program := "ytlooelfkkbgmhaadoor", sum := "d294749c82d32c10a94da91e66f73777e3fffe5b7269dc53e70684e0005e8c63", func := "pub-timebook/laws.FnSemverMostHolds", spec := "fnSemverMostHolds", named := ["strconv.ErrSyntax", "strconv.ErrRange", "internal/strconv.uint64pow10", "math/bits.deBruijn32tab", "math/bits.deBruijn64tab"], apart := false, laid := [("math/bits.deBruijn32tab", laid_math_bits_deBruijn32tab), ("math/bits.deBruijn64tab", laid_math_bits_deBruijn64tab), ("internal/strconv.uint64pow10", laid_internal_strconv_uint64pow10), ("strconv.ErrRange", laid_strconv_ErrRange), ("strconv.ErrSyntax", laid_strconv_ErrSyntax)] }
def FnSemverMostHoldsSaid : Prop := fnSemverMostHoldsRow.holds Tryd.pinned (OpenSpec.ofChange fnSemverMostHoldsSpec)

/-- ITS FALSE NEIGHBOUR: 'it returns false'. Refute it at one input. -/
def fnSemverMostHoldsWrong : ChangeSpec := { name := "fnSemverMostHolds", fn := fun _ => fun
  | [d1, d2, d3] => { results := [.lit (.bool false)], args := [d1, d2, d3] }
  | _ => none }
def FnSemverMostHoldsWrongFalsely : Prop := fnSemverMostHoldsRow.holds Tryd.pinned (OpenSpec.ofChange fnSemverMostHoldsWrong)

/-- 'laws.FnSemverMostCompares': WHATEVER THE INPUT: true; the input reads as it did. -/
def fnSemverMostComparesSpec : ChangeSpec := { name := "fnSemverMostCompares", fn := fun _ => fun
  | [d1, d2] => { results := [.lit (.bool true)], args := [d1, d2] }
  | _ => none }
def fnSemverMostComparesRow : OpenClaim := { program := "ytlooelfkkbgmhaadoor", sum := "d294749c82d32c10a94da91e66f73777e3fffe5b7269dc53e70684e0005e8c63", func := "pub-timebook/laws.FnSemverMostCompares", spec := "fnSemverMostCompares", named := ["strconv.ErrSyntax", "strconv.ErrRange", "internal/strconv.uint64pow10", "math/bits.deBruijn32tab", "math/bits.deBruijn64tab"], apart := false, laid := [("math/bits.deBruijn32tab", laid_math_bits_deBruijn32tab), ("math/bits.deBruijn64tab", laid_math_bits_deBruijn64tab), ("internal/strconv.uint64pow10", laid_internal_strconv_uint64pow10), ("strconv.ErrRange", laid_strconv_ErrRange), ("strconv.ErrSyntax", laid_strconv_ErrSyntax)] }
def FnSemverMostComparesSaid : Prop := fnSemverMostComparesRow.holds Tryd.pinned (OpenSpec.ofChange fnSemverMostComparesSpec)

/-- ITS FALSE NEIGHBOUR: 'it returns false'. Refute it at one input. -/
def fnSemverMostComparesWrong : ChangeSpec := { name := "fnSemverMostCompares", fn := fun _ => fun
  | [d1, d2] => { results := [.lit (.bool false)], args := [d1, d2] }
  | _ => none }
def FnSemverMostComparesWrongFalsely : Prop := fnSemverMostComparesRow.holds Tryd.pinned (OpenSpec.ofChange fnSemverMostComparesWrong)

/-- 'laws.FnSemverIncRun': WHATEVER THE INPUT: true; the input reads as it did. -/
def fnSemverIncRunSpec : ChangeSpec := { name := "fnSemverIncRun", fn := fun _ => fun
  | [d1, d2] => { results := [.lit (.bool true)], args := [d1, d2] }
  | _ => none }
def fnSemverIncRunRow : OpenClaim := { program := "ytlooelfkkbgmhaadoor", sum := "d294749c82d32c10a94da91e66f73777e3fffe5b7269dc53e70684e0005e8c63", func := "pub-timebook/laws.FnSemverIncRun", spec := "fnSemverIncRun", named := ["internal/strconv.uint64pow10", "math/bits.deBruijn32tab", "math/bits.deBruijn64tab", "strconv.ErrSyntax", "strconv.ErrRange"], apart := false, laid := [("math/bits.deBruijn32tab", laid_math_bits_deBruijn32tab), ("math/bits.deBruijn64tab", laid_math_bits_deBruijn64tab), ("internal/strconv.uint64pow10", laid_internal_strconv_uint64pow10), ("strconv.ErrRange", laid_strconv_ErrRange), ("strconv.ErrSyntax", laid_strconv_ErrSyntax)] }
def FnSemverIncRunSaid : Prop := fnSemverIncRunRow.holds Tryd.pinned (OpenSpec.ofChange fnSemverIncRunSpec)

/-- ITS FALSE NEIGHBOUR: 'it returns false'. Refute it at one input. -/
def fnSemverIncRunWrong : ChangeSpec := { name := "fnSemverIncRun", fn := fun _ => fun
  | [d1, d2] => { results := [.lit (.bool false)], args := [d1, d2] }
  | _ => none }
def FnSemverIncRunWrongFalsely : Prop := fnSemverIncRunRow.holds Tryd.pinned (OpenSpec.ofChange fnSemverIncRunWrong)

/-- 'laws.FnSemverOneOf': WHATEVER THE INPUT: true; the input reads as it did. -/
def fnSemverOneOfSpec : ChangeSpec := { name := "fnSemverOneOf", fn := fun _ => fun
  | [d1, d2, d3] => { results := [.lit (.bool true)], args := [d1, d2, d3] }
  | _ => none }
def fnSemverOneOfRow : OpenClaim := { program := "ytlooelfkkbgmhaadoor", sum := "d294749c82d32c10a94da91e66f73777e3fffe5b7269dc53e70684e0005e8c63", func := "pub-timebook/laws.FnSemverOneOf", spec := "fnSemverOneOf", named := ["strconv.ErrSyntax", "strconv.ErrRange", "internal/strconv.uint64pow10", "math/bits.deBruijn32tab", "math/bits.deBruijn64tab"], apart := false, laid := [("math/bits.deBruijn32tab", laid_math_bits_deBruijn32tab), ("math/bits.deBruijn64tab", laid_math_bits_deBruijn64tab), ("internal/strconv.uint64pow10", laid_internal_strconv_uint64pow10), ("strconv.ErrRange", laid_strconv_ErrRange), ("strconv.ErrSyntax", laid_strconv_ErrSyntax)] }
def FnSemverOneOfSaid : Prop := fnSemverOneOfRow.holds Tryd.pinned (OpenSpec.ofChange fnSemverOneOfSpec)

/-- ITS FALSE NEIGHBOUR: 'it returns false'. Refute it at one input. -/
def fnSemverOneOfWrong : ChangeSpec := { name := "fnSemverOneOf", fn := fun _ => fun
  | [d1, d2, d3] => { results := [.lit (.bool false)], args := [d1, d2, d3] }
  | _ => none }
def FnSemverOneOfWrongFalsely : Prop := fnSemverOneOfRow.holds Tryd.pinned (OpenSpec.ofChange fnSemverOneOfWrong)

/-- 'laws.FnSemverTermConvex': WHATEVER THE INPUT: true; the input reads as it did. -/
def fnSemverTermConvexSpec : ChangeSpec := { name := "fnSemverTermConvex", fn := fun _ => fun
  | [d1, d2, d3, d4] => { results := [.lit (.bool true)], args := [d1, d2, d3, d4] }
  | _ => none }
def fnSemverTermConvexRow : OpenClaim := { program := "ytlooelfkkbgmhaadoor", sum := "d294749c82d32c10a94da91e66f73777e3fffe5b7269dc53e70684e0005e8c63", func := "pub-timebook/laws.FnSemverTermConvex", spec := "fnSemverTermConvex", named := ["strconv.ErrSyntax", "strconv.ErrRange", "internal/strconv.uint64pow10", "math/bits.deBruijn32tab", "math/bits.deBruijn64tab"], apart := false, laid := [("math/bits.deBruijn32tab", laid_math_bits_deBruijn32tab), ("math/bits.deBruijn64tab", laid_math_bits_deBruijn64tab), ("internal/strconv.uint64pow10", laid_internal_strconv_uint64pow10), ("strconv.ErrRange", laid_strconv_ErrRange), ("strconv.ErrSyntax", laid_strconv_ErrSyntax)] }
def FnSemverTermConvexSaid : Prop := fnSemverTermConvexRow.holds Tryd.pinned (OpenSpec.ofChange fnSemverTermConvexSpec)

/-- ITS FALSE NEIGHBOUR: 'it returns false'. Refute it at one input. -/
def fnSemverTermConvexWrong : ChangeSpec := { name := "fnSemverTermConvex", fn := fun _ => fun
  | [d1, d2, d3, d4] => { results := [.lit (.bool false)], args := [d1, d2, d3, d4] }
  | _ => none }
def FnSemverTermConvexWrongFalsely : Prop := fnSemverTermConvexRow.holds Tryd.pinned (OpenSpec.ofChange fnSemverTermConvexWrong)

/-- 'laws.FnSemverTermFewer': WHATEVER THE INPUT: true; the input reads as it did. -/
def fnSemverTermFewerSpec : ChangeSpec := { name := "fnSemverTermFewer", fn := fun _ => fun
  | [d1, d2, d3, d4] => { results := [.lit (.bool true)], args := [d1, d2, d3, d4] }
  | _ => none }
def fnSemverTermFewerRow : OpenClaim := { program := "ytlooelfkkbgmhaadoor", sum := "d294749c82d32c10a94da91e66f73777e3fffe5b7269dc53e70684e0005e8c63", func := "pub-timebook/laws.FnSemverTermFewer", spec := "fnSemverTermFewer", named := ["strconv.ErrSyntax", "strconv.ErrRange", "internal/strconv.uint64pow10", "math/bits.deBruijn32tab", "math/bits.deBruijn64tab"], apart := false, laid := [("math/bits.deBruijn32tab", laid_math_bits_deBruijn32tab), ("math/bits.deBruijn64tab", laid_math_bits_deBruijn64tab), ("internal/strconv.uint64pow10", laid_internal_strconv_uint64pow10), ("strconv.ErrRange", laid_strconv_ErrRange), ("strconv.ErrSyntax", laid_strconv_ErrSyntax)] }
def FnSemverTermFewerSaid : Prop := fnSemverTermFewerRow.holds Tryd.pinned (OpenSpec.ofChange fnSemverTermFewerSpec)

/-- ITS FALSE NEIGHBOUR: 'it returns false'. Refute it at one input. -/
def fnSemverTermFewerWrong : ChangeSpec := { name := "fnSemverTermFewer", fn := fun _ => fun
  | [d1, d2, d3, d4] => { results := [.lit (.bool false)], args := [d1, d2, d3, d4] }
  | _ => none }
def FnSemverTermFewerWrongFalsely : Prop := fnSemverTermFewerRow.holds Tryd.pinned (OpenSpec.ofChange fnSemverTermFewerWrong)

/-- 'laws.FnSemverTermCompares': WHATEVER THE INPUT: true; the input reads as it did. -/
def fnSemverTermComparesSpec : ChangeSpec := { name := "fnSemverTermCompares", fn := fun _ => fun
  | [d1, d2] => { results := [.lit (.bool true)], args := [d1, d2] }
  | _ => none }
def fnSemverTermComparesRow : OpenClaim := { program := "ytlooelfkkbgmhaadoor", sum := "d294749c82d32c10a94da91e66f73777e3fffe5b7269dc53e70684e0005e8c63", func := "pub-timebook/laws.FnSemverTermCompares", spec := "fnSemverTermCompares", named := ["strconv.ErrSyntax", "strconv.ErrRange", "internal/strconv.uint64pow10", "math/bits.deBruijn32tab", "math/bits.deBruijn64tab"], apart := false, laid := [("math/bits.deBruijn32tab", laid_math_bits_deBruijn32tab), ("math/bits.deBruijn64tab", laid_math_bits_deBruijn64tab), ("internal/strconv.uint64pow10", laid_internal_strconv_uint64pow10), ("strconv.ErrRange", laid_strconv_ErrRange), ("strconv.ErrSyntax", laid_strconv_ErrSyntax)] }
def FnSemverTermComparesSaid : Prop := fnSemverTermComparesRow.holds Tryd.pinned (OpenSpec.ofChange fnSemverTermComparesSpec)

/-- ITS FALSE NEIGHBOUR: 'it returns false'. Refute it at one input. -/
def fnSemverTermComparesWrong : ChangeSpec := { name := "fnSemverTermCompares", fn := fun _ => fun
  | [d1, d2] => { results := [.lit (.bool false)], args := [d1, d2] }
  | _ => none }
def FnSemverTermComparesWrongFalsely : Prop := fnSemverTermComparesRow.holds Tryd.pinned (OpenSpec.ofChange fnSemverTermComparesWrong)

/-- 'laws.FnSemverExcluded': WHATEVER THE INPUT: true; the input reads as it did. -/
def fnSemverExcludedSpec : ChangeSpec := { name := "fnSemverExcluded", fn := fun _ => fun
  | [d1, d2] => { results := [.lit (.bool true)], args := [d1, d2] }
  | _ => none }
def fnSemverExcludedRow : OpenClaim := { program := "ytlooelfkkbgmhaadoor", sum := "d294749c82d32c10a94da91e66f73777e3fffe5b7269dc53e70684e0005e8c63", func := "pub-timebook/laws.FnSemverExcluded", spec := "fnSemverExcluded", named := ["strconv.ErrSyntax", "strconv.ErrRange", "internal/strconv.uint64pow10", "math/bits.deBruijn32tab", "math/bits.deBruijn64tab"], apart := false, laid := [("math/bits.deBruijn32tab", laid_math_bits_deBruijn32tab), ("math/bits.deBruijn64tab", laid_math_bits_deBruijn64tab), ("internal/strconv.uint64pow10", laid_internal_strconv_uint64pow10), ("strconv.ErrRange", laid_strconv_ErrRange), ("strconv.ErrSyntax", laid_strconv_ErrSyntax)] }
def FnSemverExcludedSaid : Prop := fnSemverExcludedRow.holds Tryd.pinned (OpenSpec.ofChange fnSemverExcludedSpec)

/-- ITS FALSE NEIGHBOUR: 'it returns false'. Refute it at one input. -/
def fnSemverExcludedWrong : ChangeSpec := { name := "fnSemverExcluded", fn := fun _ => fun
  | [d1, d2] => { results := [.lit (.bool false)], args := [d1, d2] }
  | _ => none }
def FnSemverExcludedWrongFalsely : Prop := fnSemverExcludedRow.holds Tryd.pinned (OpenSpec.ofChange fnSemverExcludedWrong)

/-- 'laws.FnSemverLandingPre': WHATEVER THE INPUT: true; the input reads as it did. -/
def fnSemverLandingPreSpec : ChangeSpec := { name := "fnSemverLandingPre", fn := fun _ => fun
  | [d1, d2] => { results := [.lit (.bool true)], args := [d1, d2] }
  | _ => none }
def fnSemverLandingPreRow : OpenClaim := { program := "ytlooelfkkbgmhaadoor", sum := "d294749c82d32c10a94da91e66f73777e3fffe5b7269dc53e70684e0005e8c63", func := "pub-timebook/laws.FnSemverLandingPre", spec := "fnSemverLandingPre", unfollowed := true, recurses := true, named := ["strconv.ErrSyntax", "strconv.ErrRange", "internal/strconv.uint64pow10", "math/bits.deBruijn32tab", "math/bits.deBruijn64tab"], apart := false, laid := [("math/bits.deBruijn32tab", laid_math_bits_deBruijn32tab), ("math/bits.deBruijn64tab", laid_math_bits_deBruijn64tab), ("internal/strconv.uint64pow10", laid_internal_strconv_uint64pow10), ("strconv.ErrRange", laid_strconv_ErrRange), ("strconv.ErrSyntax", laid_strconv_ErrSyntax)] }
def FnSemverLandingPreSaid : Prop := fnSemverLandingPreRow.holds Tryd.pinned (OpenSpec.ofChange fnSemverLandingPreSpec)

/-- ITS FALSE NEIGHBOUR: 'it returns false'. Refute it at one input. -/
def fnSemverLandingPreWrong : ChangeSpec := { name := "fnSemverLandingPre", fn := fun _ => fun
  | [d1, d2] => { results := [.lit (.bool false)], args := [d1, d2] }
  | _ => none }
def FnSemverLandingPreWrongFalsely : Prop := fnSemverLandingPreRow.holds Tryd.pinned (OpenSpec.ofChange fnSemverLandingPreWrong)

/-- 'laws.FnSemverTermsOpposite': WHATEVER THE INPUT: true; the input reads as it did. -/
def fnSemverTermsOppositeSpec : ChangeSpec := { name := "fnSemverTermsOpposite", fn := fun _ => fun
  | [d1, d2] => { results := [.lit (.bool true)], args := [d1, d2] }
  | _ => none }
def fnSemverTermsOppositeRow : OpenClaim := { program := "ytlooelfkkbgmhaadoor", sum := "d294749c82d32c10a94da91e66f73777e3fffe5b7269dc53e70684e0005e8c63", func := "pub-timebook/laws.FnSemverTermsOpposite", spec := "fnSemverTermsOpposite", named := ["strconv.ErrSyntax", "strconv.ErrRange", "internal/strconv.uint64pow10", "math/bits.deBruijn32tab", "math/bits.deBruijn64tab"], apart := false, laid := [("math/bits.deBruijn32tab", laid_math_bits_deBruijn32tab), ("math/bits.deBruijn64tab", laid_math_bits_deBruijn64tab), ("internal/strconv.uint64pow10", laid_internal_strconv_uint64pow10), ("strconv.ErrRange", laid_strconv_ErrRange), ("strconv.ErrSyntax", laid_strconv_ErrSyntax)] }
def FnSemverTermsOppositeSaid : Prop := fnSemverTermsOppositeRow.holds Tryd.pinned (OpenSpec.ofChange fnSemverTermsOppositeSpec)

/-- ITS FALSE NEIGHBOUR: 'it returns false'. Refute it at one input. -/
def fnSemverTermsOppositeWrong : ChangeSpec := { name := "fnSemverTermsOpposite", fn := fun _ => fun
  | [d1, d2] => { results := [.lit (.bool false)], args := [d1, d2] }
  | _ => none }
def FnSemverTermsOppositeWrongFalsely : Prop := fnSemverTermsOppositeRow.holds Tryd.pinned (OpenSpec.ofChange fnSemverTermsOppositeWrong)

/- THE SECOND FORM. 'bulk': how many values and letters a reading holds, each counted each time it is reached (what is shared counts as often as it is met; a slice's spare places count too). A statement '..UptoSaid' is the law's where the arguments, and the package variables that the reading takes, are together of bulk at most 1048576: NARROWER than '..Said'. Prove '..Said' where nothing that the law and all that it calls make is longer than what came in: it says more and counts as full. Else prove '..UptoSaid'. A law counts once. -/
mutual
def uptoBulk {H : Type} : DataW H → Nat
  | .lit (.string bytes) => bytes.length + 1
  | .lit _ => 1
  | .nil => 1
  | .ptr d => uptoBulk d + 1
  | .slice elems spare => uptoBulkAll elems + uptoBulkAll spare + 1
  | .agg parts => uptoBulkAll parts + 1
  | .iface _ d => uptoBulk d + 1
  | .map entries => uptoBulkEntries entries + 1
  | .held _ => 1
def uptoBulkAll {H : Type} : List (DataW H) → Nat
  | [] => 0
  | d :: r => uptoBulk d + uptoBulkAll r
def uptoBulkEntries {H : Type} : List (Lit × DataW H) → Nat
  | [] => 0
  | x :: r => uptoBulkEntry x + uptoBulkEntries r
def uptoBulkEntry {H : Type} : Lit × DataW H → Nat
  | (.string bytes, d) => bytes.length + uptoBulk d + 1
  | (_, d) => uptoBulk d + 1
 end
def uptoSmall : (H : Type) → List (DataW H) → Bool := fun _ ds => decide (uptoBulkAll ds ≤ 1048576)
def OpenSpec.upto (s : _root_.Go.ChangeSpec) : _root_.Go.OpenSpec := { _root_.Go.OpenSpec.ofChange s with cond := some uptoSmall }

/-- 'laws.FnSemverIncPatch', WHERE WHAT IT READS IS OF BULK AT MOST 1048576: true; the input reads as it did. -/
def fnSemverIncPatchUptoRow : OpenClaim := { program := "ytlooelfkkbgmhaadoor", sum := "d294749c82d32c10a94da91e66f73777e3fffe5b7269dc53e70684e0005e8c63", func := "pub-timebook/laws.FnSemverIncPatch", spec := "fnSemverIncPatch", named := ["internal/strconv.uint64pow10", "math/bits.deBruijn32tab", "math/bits.deBruijn64tab"], apart := false, laid := [("math/bits.deBruijn32tab", laid_math_bits_deBruijn32tab), ("math/bits.deBruijn64tab", laid_math_bits_deBruijn64tab), ("internal/strconv.uint64pow10", laid_internal_strconv_uint64pow10)], narrowed := true }
def FnSemverIncPatchUptoSaid : Prop := fnSemverIncPatchUptoRow.holds Tryd.pinned (OpenSpec.upto fnSemverIncPatchSpec)

/-- 'laws.FnSemverPart', WHERE WHAT IT READS IS OF BULK AT MOST 1048576: true; the input reads as it did. -/
def fnSemverPartUptoRow : OpenClaim := { program := "ytlooelfkkbgmhaadoor", sum := "d294749c82d32c10a94da91e66f73777e3fffe5b7269dc53e70684e0005e8c63", func := "pub-timebook/laws.FnSemverPart", spec := "fnSemverPart", named := ["strconv.ErrSyntax", "strconv.ErrRange", "internal/strconv.uint64pow10", "math/bits.deBruijn32tab", "math/bits.deBruijn64tab"], apart := false, laid := [("math/bits.deBruijn32tab", laid_math_bits_deBruijn32tab), ("math/bits.deBruijn64tab", laid_math_bits_deBruijn64tab), ("internal/strconv.uint64pow10", laid_internal_strconv_uint64pow10), ("strconv.ErrRange", laid_strconv_ErrRange), ("strconv.ErrSyntax", laid_strconv_ErrSyntax)], narrowed := true }
def FnSemverPartUptoSaid : Prop := fnSemverPartUptoRow.holds Tryd.pinned (OpenSpec.upto fnSemverPartSpec)

/-- 'laws.FnSemverPreTail', WHERE WHAT IT READS IS OF BULK AT MOST 1048576: true; the input reads as it did. -/
def fnSemverPreTailUptoRow : OpenClaim := { program := "ytlooelfkkbgmhaadoor", sum := "d294749c82d32c10a94da91e66f73777e3fffe5b7269dc53e70684e0005e8c63", func := "pub-timebook/laws.FnSemverPreTail", spec := "fnSemverPreTail", named := ["strconv.ErrSyntax", "strconv.ErrRange", "internal/strconv.uint64pow10", "math/bits.deBruijn32tab", "math/bits.deBruijn64tab"], apart := false, laid := [("math/bits.deBruijn32tab", laid_math_bits_deBruijn32tab), ("math/bits.deBruijn64tab", laid_math_bits_deBruijn64tab), ("internal/strconv.uint64pow10", laid_internal_strconv_uint64pow10), ("strconv.ErrRange", laid_strconv_ErrRange), ("strconv.ErrSyntax", laid_strconv_ErrSyntax)], narrowed := true }
def FnSemverPreTailUptoSaid : Prop := fnSemverPreTailUptoRow.holds Tryd.pinned (OpenSpec.upto fnSemverPreTailSpec)

/-- 'laws.FnSemverOrderNames', WHERE WHAT IT READS IS OF BULK AT MOST 1048576: true; the input reads as it did. -/
def fnSemverOrderNamesUptoRow : OpenClaim := { program := "ytlooelfkkbgmhaadoor", sum := "d294749c82d32c10a94da91e66f73777e3fffe5b7269dc53e70684e0005e8c63", func := "pub-timebook/laws.FnSemverOrderNames", spec := "fnSemverOrderNames", named := ["strconv.ErrSyntax", "strconv.ErrRange", "internal/strconv.uint64pow10", "math/bits.deBruijn32tab", "math/bits.deBruijn64tab"], apart := false, laid := [("math/bits.deBruijn32tab", laid_math_bits_deBruijn32tab), ("math/bits.deBruijn64tab", laid_math_bits_deBruijn64tab), ("internal/strconv.uint64pow10", laid_internal_strconv_uint64pow10), ("strconv.ErrRange", laid_strconv_ErrRange), ("strconv.ErrSyntax", laid_strconv_ErrSyntax)], narrowed := true }
def FnSemverOrderNamesUptoSaid : Prop := fnSemverOrderNamesUptoRow.holds Tryd.pinned (OpenSpec.upto fnSemverOrderNamesSpec)

/-- 'laws.FnSemverMostHolds', WHERE WHAT IT READS IS OF BULK AT MOST 1048576: true; the input reads as it did. -/
def fnSemverMostHoldsUptoRow : OpenClaim := { program := "ytlooelfkkbgmhaadoor", sum := "d294749c82d32c10a94da91e66f73777e3fffe5b7269dc53e70684e0005e8c63", func := "pub-timebook/laws.FnSemverMostHolds", spec := "fnSemverMostHolds", named := ["strconv.ErrSyntax", "strconv.ErrRange", "internal/strconv.uint64pow10", "math/bits.deBruijn32tab", "math/bits.deBruijn64tab"], apart := false, laid := [("math/bits.deBruijn32tab", laid_math_bits_deBruijn32tab), ("math/bits.deBruijn64tab", laid_math_bits_deBruijn64tab), ("internal/strconv.uint64pow10", laid_internal_strconv_uint64pow10), ("strconv.ErrRange", laid_strconv_ErrRange), ("strconv.ErrSyntax", laid_strconv_ErrSyntax)], narrowed := true }
def FnSemverMostHoldsUptoSaid : Prop := fnSemverMostHoldsUptoRow.holds Tryd.pinned (OpenSpec.upto fnSemverMostHoldsSpec)

/-- 'laws.FnSemverMostCompares', WHERE WHAT IT READS IS OF BULK AT MOST 1048576: true; the input reads as it did. -/
def fnSemverMostComparesUptoRow : OpenClaim := { program := "ytlooelfkkbgmhaadoor", sum := "d294749c82d32c10a94da91e66f73777e3fffe5b7269dc53e70684e0005e8c63", func := "pub-timebook/laws.FnSemverMostCompares", spec := "fnSemverMostCompares", named := ["strconv.ErrSyntax", "strconv.ErrRange", "internal/strconv.uint64pow10", "math/bits.deBruijn32tab", "math/bits.deBruijn64tab"], apart := false, laid := [("math/bits.deBruijn32tab", laid_math_bits_deBruijn32tab), ("math/bits.deBruijn64tab", laid_math_bits_deBruijn64tab), ("internal/strconv.uint64pow10", laid_internal_strconv_uint64pow10), ("strconv.ErrRange", laid_strconv_ErrRange), ("strconv.ErrSyntax", laid_strconv_ErrSyntax)], narrowed := true }
def FnSemverMostComparesUptoSaid : Prop := fnSemverMostComparesUptoRow.holds Tryd.pinned (OpenSpec.upto fnSemverMostComparesSpec)

/-- 'laws.FnSemverIncRun', WHERE WHAT IT READS IS OF BULK AT MOST 1048576: true; the input reads as it did. -/
def fnSemverIncRunUptoRow : OpenClaim := { program := "ytlooelfkkbgmhaadoor", sum := "d294749c82d32c10a94da91e66f73777e3fffe5b7269dc53e70684e0005e8c63", func := "pub-timebook/laws.FnSemverIncRun", spec := "fnSemverIncRun", named := ["internal/strconv.uint64pow10", "math/bits.deBruijn32tab", "math/bits.deBruijn64tab", "strconv.ErrSyntax", "strconv.ErrRange"], apart := false, laid := [("math/bits.deBruijn32tab", laid_math_bits_deBruijn32tab), ("math/bits.deBruijn64tab", laid_math_bits_deBruijn64tab), ("internal/strconv.uint64pow10", laid_internal_strconv_uint64pow10), ("strconv.ErrRange", laid_strconv_ErrRange), ("strconv.ErrSyntax", laid_strconv_ErrSyntax)], narrowed := true }
def FnSemverIncRunUptoSaid : Prop := fnSemverIncRunUptoRow.holds Tryd.pinned (OpenSpec.upto fnSemverIncRunSpec)

/-- 'laws.FnSemverOneOf', WHERE WHAT IT READS IS OF BULK AT MOST 1048576: true; the input reads as it did. -/
def fnSemverOneOfUptoRow : OpenClaim := { program := "ytlooelfkkbgmhaadoor", sum := "d294749c82d32c10a94da91e66f73777e3fffe5b7269dc53e70684e0005e8c63", func := "pub-timebook/laws.FnSemverOneOf", spec := "fnSemverOneOf", named := ["strconv.ErrSyntax", "strconv.ErrRange", "internal/strconv.uint64pow10", "math/bits.deBruijn32tab", "math/bits.deBruijn64tab"], apart := false, laid := [("math/bits.deBruijn32tab", laid_math_bits_deBruijn32tab), ("math/bits.deBruijn64tab", laid_math_bits_deBruijn64tab), ("internal/strconv.uint64pow10", laid_internal_strconv_uint64pow10), ("strconv.ErrRange", laid_strconv_ErrRange), ("strconv.ErrSyntax", laid_strconv_ErrSyntax)], narrowed := true }
def FnSemverOneOfUptoSaid : Prop := fnSemverOneOfUptoRow.holds Tryd.pinned (OpenSpec.upto fnSemverOneOfSpec)

/-- 'laws.FnSemverTermConvex', WHERE WHAT IT READS IS OF BULK AT MOST 1048576: true; the input reads as it did. -/
def fnSemverTermConvexUptoRow : OpenClaim := { program := "ytlooelfkkbgmhaadoor", sum := "d294749c82d32c10a94da91e66f73777e3fffe5b7269dc53e70684e0005e8c63", func := "pub-timebook/laws.FnSemverTermConvex", spec := "fnSemverTermConvex", named := ["strconv.ErrSyntax", "strconv.ErrRange", "internal/strconv.uint64pow10", "math/bits.deBruijn32tab", "math/bits.deBruijn64tab"], apart := false, laid := [("math/bits.deBruijn32tab", laid_math_bits_deBruijn32tab), ("math/bits.deBruijn64tab", laid_math_bits_deBruijn64tab), ("internal/strconv.uint64pow10", laid_internal_strconv_uint64pow10), ("strconv.ErrRange", laid_strconv_ErrRange), ("strconv.ErrSyntax", laid_strconv_ErrSyntax)], narrowed := true }
def FnSemverTermConvexUptoSaid : Prop := fnSemverTermConvexUptoRow.holds Tryd.pinned (OpenSpec.upto fnSemverTermConvexSpec)

/-- 'laws.FnSemverTermFewer', WHERE WHAT IT READS IS OF BULK AT MOST 1048576: true; the input reads as it did. -/
def fnSemverTermFewerUptoRow : OpenClaim := { program := "ytlooelfkkbgmhaadoor", sum := "d294749c82d32c10a94da91e66f73777e3fffe5b7269dc53e70684e0005e8c63", func := "pub-timebook/laws.FnSemverTermFewer", spec := "fnSemverTermFewer", named := ["strconv.ErrSyntax", "strconv.ErrRange", "internal/strconv.uint64pow10", "math/bits.deBruijn32tab", "math/bits.deBruijn64tab"], apart := false, laid := [("math/bits.deBruijn32tab", laid_math_bits_deBruijn32tab), ("math/bits.deBruijn64tab", laid_math_bits_deBruijn64tab), ("internal/strconv.uint64pow10", laid_internal_strconv_uint64pow10), ("strconv.ErrRange", laid_strconv_ErrRange), ("strconv.ErrSyntax", laid_strconv_ErrSyntax)], narrowed := true }
def FnSemverTermFewerUptoSaid : Prop := fnSemverTermFewerUptoRow.holds Tryd.pinned (OpenSpec.upto fnSemverTermFewerSpec)

/-- 'laws.FnSemverTermCompares', WHERE WHAT IT READS IS OF BULK AT MOST 1048576: true; the input reads as it did. -/
def fnSemverTermComparesUptoRow : OpenClaim := { program := "ytlooelfkkbgmhaadoor", sum := "d294749c82d32c10a94da91e66f73777e3fffe5b7269dc53e70684e0005e8c63", func := "pub-timebook/laws.FnSemverTermCompares", spec := "fnSemverTermCompares", named := ["strconv.ErrSyntax", "strconv.ErrRange", "internal/strconv.uint64pow10", "math/bits.deBruijn32tab", "math/bits.deBruijn64tab"], apart := false, laid := [("math/bits.deBruijn32tab", laid_math_bits_deBruijn32tab), ("math/bits.deBruijn64tab", laid_math_bits_deBruijn64tab), ("internal/strconv.uint64pow10", laid_internal_strconv_uint64pow10), ("strconv.ErrRange", laid_strconv_ErrRange), ("strconv.ErrSyntax", laid_strconv_ErrSyntax)], narrowed := true }
def FnSemverTermComparesUptoSaid : Prop := fnSemverTermComparesUptoRow.holds Tryd.pinned (OpenSpec.upto fnSemverTermComparesSpec)

/-- 'laws.FnSemverExcluded', WHERE WHAT IT READS IS OF BULK AT MOST 1048576: true; the input reads as it did. -/
def fnSemverExcludedUptoRow : OpenClaim := { program := "ytlooelfkkbgmhaadoor", sum := "d294749c82d32c10a94da91e66f73777e3fffe5b7269dc53e70684e0005e8c63", func := "pub-timebook/laws.FnSemverExcluded", spec := "fnSemverExcluded", named := ["strconv.ErrSyntax", "strconv.ErrRange", "internal/strconv.uint64pow10", "math/bits.deBruijn32tab", "math/bits.deBruijn64tab"], apart := false, laid := [("math/bits.deBruijn32tab", laid_math_bits_deBruijn32tab), ("math/bits.deBruijn64tab", laid_math_bits_deBruijn64tab), ("internal/strconv.uint64pow10", laid_internal_strconv_uint64pow10), ("strconv.ErrRange", laid_strconv_ErrRange), ("strconv.ErrSyntax", laid_strconv_ErrSyntax)], narrowed := true }
def FnSemverExcludedUptoSaid : Prop := fnSemverExcludedUptoRow.holds Tryd.pinned (OpenSpec.upto fnSemverExcludedSpec)

/-- 'laws.FnSemverLandingPre', WHERE WHAT IT READS IS OF BULK AT MOST 1048576: true; the input reads as it did. -/
def fnSemverLandingPreUptoRow : OpenClaim := { program := "ytlooelfkkbgmhaadoor", sum := "d294749c82d32c10a94da91e66f73777e3fffe5b7269dc53e70684e0005e8c63", func := "pub-timebook/laws.FnSemverLandingPre", spec := "fnSemverLandingPre", unfollowed := true, recurses := true, named := ["strconv.ErrSyntax", "strconv.ErrRange", "internal/strconv.uint64pow10", "math/bits.deBruijn32tab", "math/bits.deBruijn64tab"], apart := false, laid := [("math/bits.deBruijn32tab", laid_math_bits_deBruijn32tab), ("math/bits.deBruijn64tab", laid_math_bits_deBruijn64tab), ("internal/strconv.uint64pow10", laid_internal_strconv_uint64pow10), ("strconv.ErrRange", laid_strconv_ErrRange), ("strconv.ErrSyntax", laid_strconv_ErrSyntax)], narrowed := true }
def FnSemverLandingPreUptoSaid : Prop := fnSemverLandingPreUptoRow.holds Tryd.pinned (OpenSpec.upto fnSemverLandingPreSpec)

/-- 'laws.FnSemverTermsOpposite', WHERE WHAT IT READS IS OF BULK AT MOST 1048576: true; the input reads as it did. -/
def fnSemverTermsOppositeUptoRow : OpenClaim := { program := "ytlooelfkkbgmhaadoor", sum := "d294749c82d32c10a94da91e66f73777e3fffe5b7269dc53e70684e0005e8c63", func := "pub-timebook/laws.FnSemverTermsOpposite", spec := "fnSemverTermsOpposite", named := ["strconv.ErrSyntax", "strconv.ErrRange", "internal/strconv.uint64pow10", "math/bits.deBruijn32tab", "math/bits.deBruijn64tab"], apart := false, laid := [("math/bits.deBruijn32tab", laid_math_bits_deBruijn32tab), ("math/bits.deBruijn64tab", laid_math_bits_deBruijn64tab), ("internal/strconv.uint64pow10", laid_internal_strconv_uint64pow10), ("strconv.ErrRange", laid_strconv_ErrRange), ("strconv.ErrSyntax", laid_strconv_ErrSyntax)], narrowed := true }
def FnSemverTermsOppositeUptoSaid : Prop := fnSemverTermsOppositeUptoRow.holds Tryd.pinned (OpenSpec.upto fnSemverTermsOppositeSpec)

end Rows
end Go.Proofs.YtlooelfkkbgmhaaDoor
