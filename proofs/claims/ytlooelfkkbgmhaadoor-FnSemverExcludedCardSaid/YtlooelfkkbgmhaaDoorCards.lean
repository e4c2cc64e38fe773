/-
  DERIVED. GIVEN WITH THE SEED: THE CARDS: each row of YtlooelfkkbgmhaaDoorRows.lean that lists a variable, with what it lists TIED to the program's text (the seventh form; the later family's looks); each row that meets fmt, with fmt's text TOLD by the authors' own Lean function (tested against real Go, not proved from fmt's source: count such statements apart). THE CARD IS WHAT COUNTS. Prove the row's statement (the work); the ties are given (YtlooelfkkbgmhaaDoorTie.lean); close each card by the builder's one call (the guide's Derived/Test/ToyasCard.lean, 'card_holds'). Laid BY PROGRAM, IN A SANDBOX (cutbox-door.mjs). By AI agents, Wed Nov 11 2026. No macro, syntax, notation, axiom, sorry.
-/
import Derived.Test.YtlooelfkkbgmhaaDoorRows
import GoSem.ClaimSeven
namespace Go.Proofs.YtlooelfkkbgmhaaDoor
namespace Rows

/-- THE TIED CARD OF 'laws.FnSemverIncPatch'. -/
def fnSemverIncPatchCard : Claim7 := { stood := { row := fnSemverIncPatchRow, standIns := [], harness := (true, "410a8a223f535386f19a69f89cf9dcf77ec1e687569b3da8703af6611989a6a6"), looks := true }, kinds := [], alts := [], laidByText := true, laidKinds := [.data, .data, .data], laidTests := true, laidLooks := .later }
def FnSemverIncPatchCardSaid : Prop := Claim7.holds Tryd.pinned (.plain (OpenSpec.ofChange fnSemverIncPatchSpec)) fnSemverIncPatchCard

/-- THE TIED CARD OF 'laws.FnSemverPart'. -/
def fnSemverPartCard : Claim7 := { stood := { row := fnSemverPartRow, standIns := [], harness := (true, "410a8a223f535386f19a69f89cf9dcf77ec1e687569b3da8703af6611989a6a6"), looks := true }, kinds := [], alts := [], laidByText := true, laidKinds := [.data, .data, .data, .sentinel, .sentinel], laidTests := true, laidLooks := .later }
def FnSemverPartCardSaid : Prop := Claim7.holds Tryd.pinned (.plain (OpenSpec.ofChange fnSemverPartSpec)) fnSemverPartCard

/-- THE TIED CARD OF 'laws.FnSemverPreTail'. -/
def fnSemverPreTailCard : Claim7 := { stood := { row := fnSemverPreTailRow, standIns := [], harness := (true, "410a8a223f535386f19a69f89cf9dcf77ec1e687569b3da8703af6611989a6a6"), looks := true }, kinds := [], alts := [], laidByText := true, laidKinds := [.data, .data, .data, .sentinel, .sentinel], laidTests := true, laidLooks := .later }
def FnSemverPreTailCardSaid : Prop := Claim7.holds Tryd.pinned (.plain (OpenSpec.ofChange fnSemverPreTailSpec)) fnSemverPreTailCard

/-- THE TIED CARD OF 'laws.FnSemverOrderNames'. -/
def fnSemverOrderNamesCard : Claim7 := { stood := { row := fnSemverOrderNamesRow, standIns := [], harness := (true, "410a8a223f535386f19a69f89cf9dcf77ec1e687569b3da8703af6611989a6a6"), looks := true }, kinds := [], alts := [], laidByText := true, laidKinds := [.data, .data, .data, .sentinel, .sentinel], laidTests := true, laidLooks := .later }
def FnSemverOrderNamesCardSaid : Prop := Claim7.holds Tryd.pinned (.plain (OpenSpec.ofChange fnSemverOrderNamesSpec)) fnSemverOrderNamesCard

/-- THE TIED CARD OF 'laws.FnSemverMostHolds'. -/
def fnSemverMostHoldsCard : Claim7 := { stood := { row := fnSemverMostHoldsRow, standIns := [], harness := (true, "410a8a223f535386f19a69f89cf9dcf77ec1e687569b3da8703af6611989a6a6"), looks := true }, kinds := [], alts := [], laidByText := true, laidKinds := [.data, .data, .data, .sentinel, .sentinel], laidTests := true, laidLooks := .later }
def FnSemverMostHoldsCardSaid : Prop := Claim7.holds Tryd.pinned (.plain (OpenSpec.ofChange fnSemverMostHoldsSpec)) fnSemverMostHoldsCard

/-- THE TIED CARD OF 'laws.FnSemverMostCompares'. -/
def fnSemverMostComparesCard : Claim7 := { stood := { row := fnSemverMostComparesRow, standIns := [], harness := (true, "410a8a223f535386f19a69f89cf9dcf77ec1e687569b3da8703af6611989a6a6"), looks := true }, kinds := [], alts := [], laidByText := true, laidKinds := [.data, .data, .data, .sentinel, .sentinel], laidTests := true, laidLooks := .later }
def FnSemverMostComparesCardSaid : Prop := Claim7.holds Tryd.pinned (.plain (OpenSpec.ofChange fnSemverMostComparesSpec)) fnSemverMostComparesCard

/-- THE TIED CARD OF 'laws.FnSemverIncRun'. -/
def fnSemverIncRunCard : Claim7 := { stood := { row := fnSemverIncRunRow, standIns := [], harness := (true, "410a8a223f535386f19a69f89cf9dcf77ec1e687569b3da8703af6611989a6a6"), looks := true }, kinds := [], alts := [], laidByText := true, laidKinds := [.data, .data, .data, .sentinel, .sentinel], laidTests := true, laidLooks := .later }
def FnSemverIncRunCardSaid : Prop := Claim7.holds Tryd.pinned (.plain (OpenSpec.ofChange fnSemverIncRunSpec)) fnSemverIncRunCard

/-- THE TIED CARD OF 'laws.FnSemverOneOf'. -/
def fnSemverOneOfCard : Claim7 := { stood := { row := fnSemverOneOfRow, standIns := [], harness := (true, "410a8a223f535386f19a69f89cf9dcf77ec1e687569b3da8703af6611989a6a6"), looks := true }, kinds := [], alts := [], laidByText := true, laidKinds := [.data, .data, .data, .sentinel, .sentinel], laidTests := true, laidLooks := .later }
def FnSemverOneOfCardSaid : Prop := Claim7.holds Tryd.pinned (.plain (OpenSpec.ofChange fnSemverOneOfSpec)) fnSemverOneOfCard

/-- THE TIED CARD OF 'laws.FnSemverTermConvex'. -/
def fnSemverTermConvexCard : Claim7 := { stood := { row := fnSemverTermConvexRow, standIns := [], harness := (true, "410a8a223f535386f19a69f89cf9dcf77ec1e687569b3da8703af6611989a6a6"), looks := true }, kinds := [], alts := [], laidByText := true, laidKinds := [.data, .data, .data, .sentinel, .sentinel], laidTests := true, laidLooks := .later }
def FnSemverTermConvexCardSaid : Prop := Claim7.holds Tryd.pinned (.plain (OpenSpec.ofChange fnSemverTermConvexSpec)) fnSemverTermConvexCard

/-- THE TIED CARD OF 'laws.FnSemverTermFewer'. -/
def fnSemverTermFewerCard : Claim7 := { stood := { row := fnSemverTermFewerRow, standIns := [], harness := (true, "410a8a223f535386f19a69f89cf9dcf77ec1e687569b3da8703af6611989a6a6"), looks := true }, kinds := [], alts := [], laidByText := true, laidKinds := [.data, .data, .data, .sentinel, .sentinel], laidTests := true, laidLooks := .later }
def FnSemverTermFewerCardSaid : Prop := Claim7.holds Tryd.pinned (.plain (OpenSpec.ofChange fnSemverTermFewerSpec)) fnSemverTermFewerCard

/-- THE TIED CARD OF 'laws.FnSemverTermCompares'. -/
def fnSemverTermComparesCard : Claim7 := { stood := { row := fnSemverTermComparesRow, standIns := [], harness := (true, "410a8a223f535386f19a69f89cf9dcf77ec1e687569b3da8703af6611989a6a6"), looks := true }, kinds := [], alts := [], laidByText := true, laidKinds := [.data, .data, .data, .sentinel, .sentinel], laidTests := true, laidLooks := .later }
def FnSemverTermComparesCardSaid : Prop := Claim7.holds Tryd.pinned (.plain (OpenSpec.ofChange fnSemverTermComparesSpec)) fnSemverTermComparesCard

/-- THE TIED CARD OF 'laws.FnSemverExcluded'. -/
def fnSemverExcludedCard : Claim7 := { stood := { row := fnSemverExcludedRow, standIns := [], harness := (true, "410a8a223f535386f19a69f89cf9dcf77ec1e687569b3da8703af6611989a6a6"), looks := true }, kinds := [], alts := [], laidByText := true, laidKinds := [.data, .data, .data, .sentinel, .sentinel], laidTests := true, laidLooks := .later }
def FnSemverExcludedCardSaid : Prop := Claim7.holds Tryd.pinned (.plain (OpenSpec.ofChange fnSemverExcludedSpec)) fnSemverExcludedCard

/-- THE TIED CARD OF 'laws.FnSemverLandingPre'. -/
def fnSemverLandingPreCard : Claim7 := { stood := { row := fnSemverLandingPreRow, standIns := [], harness := (true, "410a8a223f535386f19a69f89cf9dcf77ec1e687569b3da8703af6611989a6a6"), looks := true }, kinds := [], alts := [], laidByText := true, laidKinds := [.data, .data, .data, .sentinel, .sentinel], laidTests := true, laidLooks := .later }
def FnSemverLandingPreCardSaid : Prop := Claim7.holds Tryd.pinned (.plain (OpenSpec.ofChange fnSemverLandingPreSpec)) fnSemverLandingPreCard

/-- THE TIED CARD OF 'laws.FnSemverTermsOpposite'. -/
def fnSemverTermsOppositeCard : Claim7 := { stood := { row := fnSemverTermsOppositeRow, standIns := [], harness := (true, "410a8a223f535386f19a69f89cf9dcf77ec1e687569b3da8703af6611989a6a6"), looks := true }, kinds := [], alts := [], laidByText := true, laidKinds := [.data, .data, .data, .sentinel, .sentinel], laidTests := true, laidLooks := .later }
def FnSemverTermsOppositeCardSaid : Prop := Claim7.holds Tryd.pinned (.plain (OpenSpec.ofChange fnSemverTermsOppositeSpec)) fnSemverTermsOppositeCard

/-- THE SECOND FORM's CARD OF 'laws.FnSemverIncPatch'. -/
def fnSemverIncPatchUptoCard : Claim7 := { stood := { row := fnSemverIncPatchUptoRow, standIns := [], harness := (true, "410a8a223f535386f19a69f89cf9dcf77ec1e687569b3da8703af6611989a6a6"), looks := true }, kinds := [], alts := [], laidByText := true, laidKinds := [.data, .data, .data], laidTests := true, laidLooks := .later }
def FnSemverIncPatchUptoCardSaid : Prop := Claim7.holds Tryd.pinned (.plain (OpenSpec.upto fnSemverIncPatchSpec)) fnSemverIncPatchUptoCard

/-- THE SECOND FORM's CARD OF 'laws.FnSemverPart'. -/
def fnSemverPartUptoCard : Claim7 := { stood := { row := fnSemverPartUptoRow, standIns := [], harness := (true, "410a8a223f535386f19a69f89cf9dcf77ec1e687569b3da8703af6611989a6a6"), looks := true }, kinds := [], alts := [], laidByText := true, laidKinds := [.data, .data, .data, .sentinel, .sentinel], laidTests := true, laidLooks := .later }
def FnSemverPartUptoCardSaid : Prop := Claim7.holds Tryd.pinned (.plain (OpenSpec.upto fnSemverPartSpec)) fnSemverPartUptoCard

/-- THE SECOND FORM's CARD OF 'laws.FnSemverPreTail'. -/
def fnSemverPreTailUptoCard : Claim7 := { stood := { row := fnSemverPreTailUptoRow, standIns := [], harness := (true, "410a8a223f535386f19a69f89cf9dcf77ec1e687569b3da8703af6611989a6a6"), looks := true }, kinds := [], alts := [], laidByText := true, laidKinds := [.data, .data, .data, .sentinel, .sentinel], laidTests := true, laidLooks := .later }
def FnSemverPreTailUptoCardSaid : Prop := Claim7.holds Tryd.pinned (.plain (OpenSpec.upto fnSemverPreTailSpec)) fnSemverPreTailUptoCard

/-- THE SECOND FORM's CARD OF 'laws.FnSemverOrderNames'. -/
def fnSemverOrderNamesUptoCard : Claim7 := { stood := { row := fnSemverOrderNamesUptoRow, standIns := [], harness := (true, "410a8a223f535386f19a69f89cf9dcf77ec1e687569b3da8703af6611989a6a6"), looks := true }, kinds := [], alts := [], laidByText := true, laidKinds := [.data, .data, .data, .sentinel, .sentinel], laidTests := true, laidLooks := .later }
def FnSemverOrderNamesUptoCardSaid : Prop := Claim7.holds Tryd.pinned (.plain (OpenSpec.upto fnSemverOrderNamesSpec)) fnSemverOrderNamesUptoCard

/-- THE SECOND FORM's CARD OF 'laws.FnSemverMostHolds'. -/
def fnSemverMostHoldsUptoCard : Claim7 := { stood := { row := fnSemverMostHoldsUptoRow, standIns := [], harness := (true, "410a8a223f535386f19a69f89cf9dcf77ec1e687569b3da8703af6611989a6a6"), looks := true }, kinds := [], alts := [], laidByText := true, laidKinds := [.data, .data, .data, .sentinel, .sentinel], laidTests := true, laidLooks := .later }
def FnSemverMostHoldsUptoCardSaid : Prop := Claim7.holds Tryd.pinned (.plain (OpenSpec.upto fnSemverMostHoldsSpec)) fnSemverMostHoldsUptoCard

/-- THE SECOND FORM's CARD OF 'laws.FnSemverMostCompares'. -/
def fnSemverMostComparesUptoCard : Claim7 := { stood := { row := fnSemverMostComparesUptoRow, standIns := [], harness := (true, "410a8a223f535386f19a69f89cf9dcf77ec1e687569b3da8703af6611989a6a6"), looks := true }, kinds := [], alts := [], laidByText := true, laidKinds := [.data, .data, .data, .sentinel, .sentinel], laidTests := true, laidLooks := .later }
def FnSemverMostComparesUptoCardSaid : Prop := Claim7.holds Tryd.pinned (.plain (OpenSpec.upto fnSemverMostComparesSpec)) fnSemverMostComparesUptoCard

/-- THE SECOND FORM's CARD OF 'laws.FnSemverIncRun'. -/
def fnSemverIncRunUptoCard : Claim7 := { stood := { row := fnSemverIncRunUptoRow, standIns := [], harness := (true, "410a8a223f535386f19a69f89cf9dcf77ec1e687569b3da8703af6611989a6a6"), looks := true }, kinds := [], alts := [], laidByText := true, laidKinds := [.data, .data, .data, .sentinel, .sentinel], laidTests := true, laidLooks := .later }
def FnSemverIncRunUptoCardSaid : Prop := Claim7.holds Tryd.pinned (.plain (OpenSpec.upto fnSemverIncRunSpec)) fnSemverIncRunUptoCard

/-- THE SECOND FORM's CARD OF 'laws.FnSemverOneOf'. -/
def fnSemverOneOfUptoCard : Claim7 := { stood := { row := fnSemverOneOfUptoRow, standIns := [], harness := (true, "410a8a223f535386f19a69f89cf9dcf77ec1e687569b3da8703af6611989a6a6"), looks := true }, kinds := [], alts := [], laidByText := true, laidKinds := [.data, .data, .data, .sentinel, .sentinel], laidTests := true, laidLooks := .later }
def FnSemverOneOfUptoCardSaid : Prop := Claim7.holds Tryd.pinned (.plain (OpenSpec.upto fnSemverOneOfSpec)) fnSemverOneOfUptoCard

/-- THE SECOND FORM's CARD OF 'laws.FnSemverTermConvex'. -/
def fnSemverTermConvexUptoCard : Claim7 := { stood := { row := fnSemverTermConvexUptoRow, standIns := [], harness := (true, "410a8a223f535386f19a69f89cf9dcf77ec1e687569b3da8703af6611989a6a6"), looks := true }, kinds := [], alts := [], laidByText := true, laidKinds := [.data, .data, .data, .sentinel, .sentinel], laidTests := true, laidLooks := .later }
def FnSemverTermConvexUptoCardSaid : Prop := Claim7.holds Tryd.pinned (.plain (OpenSpec.upto fnSemverTermConvexSpec)) fnSemverTermConvexUptoCard

/-- THE SECOND FORM's CARD OF 'laws.FnSemverTermFewer'. -/
def fnSemverTermFewerUptoCard : Claim7 := { stood := { row := fnSemverTermFewerUptoRow, standIns := [], harness := (true, "410a8a223f535386f19a69f89cf9dcf77ec1e687569b3da8703af6611989a6a6"), looks := true }, kinds := [], alts := [], laidByText := true, laidKinds := [.data, .data, .data, .sentinel, .sentinel], laidTests := true, laidLooks := .later }
def FnSemverTermFewerUptoCardSaid : Prop := Claim7.holds Tryd.pinned (.plain (OpenSpec.upto fnSemverTermFewerSpec)) fnSemverTermFewerUptoCard

/-- THE SECOND FORM's CARD OF 'laws.FnSemverTermCompares'. -/
def fnSemverTermComparesUptoCard : Claim7 := { stood := { row := fnSemverTermComparesUptoRow, standIns := [], harness := (true, "410a8a223f535386f19a69f89cf9dcf77ec1e687569b3da8703af6611989a6a6"), looks := true }, kinds := [], alts := [], laidByText := true, laidKinds := [.data, .data, .data, .sentinel, .sentinel], laidTests := true, laidLooks := .later }
def FnSemverTermComparesUptoCardSaid : Prop := Claim7.holds Tryd.pinned (.plain (OpenSpec.upto fnSemverTermComparesSpec)) fnSemverTermComparesUptoCard

/-- THE SECOND FORM's CARD OF 'laws.FnSemverExcluded'. -/
def fnSemverExcludedUptoCard : Claim7 := { stood := { row := fnSemverExcludedUptoRow, standIns := [], harness := (true, "410a8a223f535386f19a69f89cf9dcf77ec1e687569b3da8703af6611989a6a6"), looks := true }, kinds := [], alts := [], laidByText := true, laidKinds := [.data, .data, .data, .sentinel, .sentinel], laidTests := true, laidLooks := .later }
def FnSemverExcludedUptoCardSaid : Prop := Claim7.holds Tryd.pinned (.plain (OpenSpec.upto fnSemverExcludedSpec)) fnSemverExcludedUptoCard

/-- THE SECOND FORM's CARD OF 'laws.FnSemverLandingPre'. -/
def fnSemverLandingPreUptoCard : Claim7 := { stood := { row := fnSemverLandingPreUptoRow, standIns := [], harness := (true, "410a8a223f535386f19a69f89cf9dcf77ec1e687569b3da8703af6611989a6a6"), looks := true }, kinds := [], alts := [], laidByText := true, laidKinds := [.data, .data, .data, .sentinel, .sentinel], laidTests := true, laidLooks := .later }
def FnSemverLandingPreUptoCardSaid : Prop := Claim7.holds Tryd.pinned (.plain (OpenSpec.upto fnSemverLandingPreSpec)) fnSemverLandingPreUptoCard

/-- THE SECOND FORM's CARD OF 'laws.FnSemverTermsOpposite'. -/
def fnSemverTermsOppositeUptoCard : Claim7 := { stood := { row := fnSemverTermsOppositeUptoRow, standIns := [], harness := (true, "410a8a223f535386f19a69f89cf9dcf77ec1e687569b3da8703af6611989a6a6"), looks := true }, kinds := [], alts := [], laidByText := true, laidKinds := [.data, .data, .data, .sentinel, .sentinel], laidTests := true, laidLooks := .later }
def FnSemverTermsOppositeUptoCardSaid : Prop := Claim7.holds Tryd.pinned (.plain (OpenSpec.upto fnSemverTermsOppositeSpec)) fnSemverTermsOppositeUptoCard
end Rows
end Go.Proofs.YtlooelfkkbgmhaaDoor
