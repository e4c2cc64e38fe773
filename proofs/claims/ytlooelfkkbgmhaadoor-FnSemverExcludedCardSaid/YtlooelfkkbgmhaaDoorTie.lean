/-
  DERIVED. GIVEN WITH THE SEED: THE PROGRAM's TIES (one call each: nine closed facts by the kernel) AND EACH ROW's TIE, after the 31st guide's Derived/Test/Toyas{Tie, Card}.lean. No idea stands in it: it is a product of the set-up. Laid BY PROGRAM, IN A SANDBOX (cutbox-door.mjs). By AI agents, Wed Nov 11 2026. No macro, syntax, notation, axiom, sorry.
-/
import Derived.Test.YtlooelfkkbgmhaaDoorRows
import Derived.LaidByTextLater
import Derived.SevenTiedAt
import Derived.LaidSub
import Derived.LaidOnce
namespace Go.Proofs.YtlooelfkkbgmhaaDoor
open Go
set_option maxRecDepth 100000
theorem seatTie1 : Tryd.prog.laidByTextLater [("math/bits.deBruijn32tab", Rows.laid_math_bits_deBruijn32tab), ("math/bits.deBruijn64tab", Rows.laid_math_bits_deBruijn64tab), ("internal/strconv.uint64pow10", Rows.laid_internal_strconv_uint64pow10), ("strconv.ErrRange", Rows.laid_strconv_ErrRange), ("strconv.ErrSyntax", Rows.laid_strconv_ErrSyntax)] [.data, .data, .data, .sentinel, .sentinel] true :=
  Program.laidByTextLater_by_one 62 8 65 (by kernel_rfl) (by kernel_rfl) (by kernel_rfl) (by kernel_rfl) (by kernel_rfl) (by kernel_rfl) (fun _ _ => by kernel_rfl)
theorem noOwnUnsafe : Tryd.pinned.checked.prog.headLifts.contains "ownunsafe" = false := by kernel_rfl
theorem tie : Tryd.prog.laidByTextLater [("math/bits.deBruijn32tab", Rows.laid_math_bits_deBruijn32tab), ("math/bits.deBruijn64tab", Rows.laid_math_bits_deBruijn64tab), ("internal/strconv.uint64pow10", Rows.laid_internal_strconv_uint64pow10)] [.data, .data, .data] true :=
  Program.laidByTextLater.sub seatTie1 ["math/bits.deBruijn32tab", "math/bits.deBruijn64tab", "internal/strconv.uint64pow10"] (by kernel_rfl) (by kernel_rfl)
theorem fnSemverIncPatch_row_tie : Rows.fnSemverIncPatchRow.laidByTextAt .later Tryd.pinned [.data, .data, .data] true :=
  OpenClaim.laidByTextAt_later rfl rfl tie noOwnUnsafe
theorem tie2 : Tryd.prog.laidByTextLater [("math/bits.deBruijn32tab", Rows.laid_math_bits_deBruijn32tab), ("math/bits.deBruijn64tab", Rows.laid_math_bits_deBruijn64tab), ("internal/strconv.uint64pow10", Rows.laid_internal_strconv_uint64pow10), ("strconv.ErrRange", Rows.laid_strconv_ErrRange), ("strconv.ErrSyntax", Rows.laid_strconv_ErrSyntax)] [.data, .data, .data, .sentinel, .sentinel] true :=
  Program.laidByTextLater.sub seatTie1 ["math/bits.deBruijn32tab", "math/bits.deBruijn64tab", "internal/strconv.uint64pow10", "strconv.ErrRange", "strconv.ErrSyntax"] (by kernel_rfl) (by kernel_rfl)
theorem fnSemverPart_row_tie : Rows.fnSemverPartRow.laidByTextAt .later Tryd.pinned [.data, .data, .data, .sentinel, .sentinel] true :=
  OpenClaim.laidByTextAt_later rfl rfl tie2 noOwnUnsafe
theorem fnSemverPreTail_row_tie : Rows.fnSemverPreTailRow.laidByTextAt .later Tryd.pinned [.data, .data, .data, .sentinel, .sentinel] true :=
  OpenClaim.laidByTextAt_later rfl rfl tie2 noOwnUnsafe
theorem fnSemverOrderNames_row_tie : Rows.fnSemverOrderNamesRow.laidByTextAt .later Tryd.pinned [.data, .data, .data, .sentinel, .sentinel] true :=
  OpenClaim.laidByTextAt_later rfl rfl tie2 noOwnUnsafe
theorem fnSemverMostHolds_row_tie : Rows.fnSemverMostHoldsRow.laidByTextAt .later Tryd.pinned [.data, .data, .data, .sentinel, .sentinel] true :=
  OpenClaim.laidByTextAt_later rfl rfl tie2 noOwnUnsafe
theorem fnSemverMostCompares_row_tie : Rows.fnSemverMostComparesRow.laidByTextAt .later Tryd.pinned [.data, .data, .data, .sentinel, .sentinel] true :=
  OpenClaim.laidByTextAt_later rfl rfl tie2 noOwnUnsafe
theorem fnSemverIncRun_row_tie : Rows.fnSemverIncRunRow.laidByTextAt .later Tryd.pinned [.data, .data, .data, .sentinel, .sentinel] true :=
  OpenClaim.laidByTextAt_later rfl rfl tie2 noOwnUnsafe
theorem fnSemverOneOf_row_tie : Rows.fnSemverOneOfRow.laidByTextAt .later Tryd.pinned [.data, .data, .data, .sentinel, .sentinel] true :=
  OpenClaim.laidByTextAt_later rfl rfl tie2 noOwnUnsafe
theorem fnSemverTermConvex_row_tie : Rows.fnSemverTermConvexRow.laidByTextAt .later Tryd.pinned [.data, .data, .data, .sentinel, .sentinel] true :=
  OpenClaim.laidByTextAt_later rfl rfl tie2 noOwnUnsafe
theorem fnSemverTermFewer_row_tie : Rows.fnSemverTermFewerRow.laidByTextAt .later Tryd.pinned [.data, .data, .data, .sentinel, .sentinel] true :=
  OpenClaim.laidByTextAt_later rfl rfl tie2 noOwnUnsafe
theorem fnSemverTermCompares_row_tie : Rows.fnSemverTermComparesRow.laidByTextAt .later Tryd.pinned [.data, .data, .data, .sentinel, .sentinel] true :=
  OpenClaim.laidByTextAt_later rfl rfl tie2 noOwnUnsafe
theorem fnSemverExcluded_row_tie : Rows.fnSemverExcludedRow.laidByTextAt .later Tryd.pinned [.data, .data, .data, .sentinel, .sentinel] true :=
  OpenClaim.laidByTextAt_later rfl rfl tie2 noOwnUnsafe
theorem fnSemverLandingPre_row_tie : Rows.fnSemverLandingPreRow.laidByTextAt .later Tryd.pinned [.data, .data, .data, .sentinel, .sentinel] true :=
  OpenClaim.laidByTextAt_later rfl rfl tie2 noOwnUnsafe
theorem fnSemverTermsOpposite_row_tie : Rows.fnSemverTermsOppositeRow.laidByTextAt .later Tryd.pinned [.data, .data, .data, .sentinel, .sentinel] true :=
  OpenClaim.laidByTextAt_later rfl rfl tie2 noOwnUnsafe
theorem fnSemverIncPatchUpto_row_tie : Rows.fnSemverIncPatchUptoRow.laidByTextAt .later Tryd.pinned [.data, .data, .data] true :=
  OpenClaim.laidByTextAt_later rfl rfl tie noOwnUnsafe
theorem fnSemverPartUpto_row_tie : Rows.fnSemverPartUptoRow.laidByTextAt .later Tryd.pinned [.data, .data, .data, .sentinel, .sentinel] true :=
  OpenClaim.laidByTextAt_later rfl rfl tie2 noOwnUnsafe
theorem fnSemverPreTailUpto_row_tie : Rows.fnSemverPreTailUptoRow.laidByTextAt .later Tryd.pinned [.data, .data, .data, .sentinel, .sentinel] true :=
  OpenClaim.laidByTextAt_later rfl rfl tie2 noOwnUnsafe
theorem fnSemverOrderNamesUpto_row_tie : Rows.fnSemverOrderNamesUptoRow.laidByTextAt .later Tryd.pinned [.data, .data, .data, .sentinel, .sentinel] true :=
  OpenClaim.laidByTextAt_later rfl rfl tie2 noOwnUnsafe
theorem fnSemverMostHoldsUpto_row_tie : Rows.fnSemverMostHoldsUptoRow.laidByTextAt .later Tryd.pinned [.data, .data, .data, .sentinel, .sentinel] true :=
  OpenClaim.laidByTextAt_later rfl rfl tie2 noOwnUnsafe
theorem fnSemverMostComparesUpto_row_tie : Rows.fnSemverMostComparesUptoRow.laidByTextAt .later Tryd.pinned [.data, .data, .data, .sentinel, .sentinel] true :=
  OpenClaim.laidByTextAt_later rfl rfl tie2 noOwnUnsafe
theorem fnSemverIncRunUpto_row_tie : Rows.fnSemverIncRunUptoRow.laidByTextAt .later Tryd.pinned [.data, .data, .data, .sentinel, .sentinel] true :=
  OpenClaim.laidByTextAt_later rfl rfl tie2 noOwnUnsafe
theorem fnSemverOneOfUpto_row_tie : Rows.fnSemverOneOfUptoRow.laidByTextAt .later Tryd.pinned [.data, .data, .data, .sentinel, .sentinel] true :=
  OpenClaim.laidByTextAt_later rfl rfl tie2 noOwnUnsafe
theorem fnSemverTermConvexUpto_row_tie : Rows.fnSemverTermConvexUptoRow.laidByTextAt .later Tryd.pinned [.data, .data, .data, .sentinel, .sentinel] true :=
  OpenClaim.laidByTextAt_later rfl rfl tie2 noOwnUnsafe
theorem fnSemverTermFewerUpto_row_tie : Rows.fnSemverTermFewerUptoRow.laidByTextAt .later Tryd.pinned [.data, .data, .data, .sentinel, .sentinel] true :=
  OpenClaim.laidByTextAt_later rfl rfl tie2 noOwnUnsafe
theorem fnSemverTermComparesUpto_row_tie : Rows.fnSemverTermComparesUptoRow.laidByTextAt .later Tryd.pinned [.data, .data, .data, .sentinel, .sentinel] true :=
  OpenClaim.laidByTextAt_later rfl rfl tie2 noOwnUnsafe
theorem fnSemverExcludedUpto_row_tie : Rows.fnSemverExcludedUptoRow.laidByTextAt .later Tryd.pinned [.data, .data, .data, .sentinel, .sentinel] true :=
  OpenClaim.laidByTextAt_later rfl rfl tie2 noOwnUnsafe
theorem fnSemverLandingPreUpto_row_tie : Rows.fnSemverLandingPreUptoRow.laidByTextAt .later Tryd.pinned [.data, .data, .data, .sentinel, .sentinel] true :=
  OpenClaim.laidByTextAt_later rfl rfl tie2 noOwnUnsafe
theorem fnSemverTermsOppositeUpto_row_tie : Rows.fnSemverTermsOppositeUptoRow.laidByTextAt .later Tryd.pinned [.data, .data, .data, .sentinel, .sentinel] true :=
  OpenClaim.laidByTextAt_later rfl rfl tie2 noOwnUnsafe
end Go.Proofs.YtlooelfkkbgmhaaDoor
