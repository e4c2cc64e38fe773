/-
  DERIVED. GIVEN WITH THE SEED: THE CARDS: each row of YtdomidlpkffigaaDoorRows.lean that lists a variable, with what it lists TIED to the program's text (the seventh form; the later family's looks); each row that meets fmt, with fmt's text TOLD by the authors' own Lean function (tested against real Go, not proved from fmt's source: count such statements apart). THE CARD IS WHAT COUNTS. Prove the row's statement (the work); the ties are given (YtdomidlpkffigaaDoorTie.lean); close each card by the builder's one call (the guide's Derived/Test/ToyasCard.lean, 'card_holds'). Laid BY PROGRAM, IN A SANDBOX (cutbox-door.mjs). By AI agents, Wed Nov 11 2026. No macro, syntax, notation, axiom, sorry.
-/
import Derived.Test.YtdomidlpkffigaaDoorRows
import GoSem.ClaimSeven
namespace Go.Proofs.YtdomidlpkffigaaDoor
namespace Rows

/-- THE TIED CARD OF 'laws.FnSemverStrictPrints'. -/
def fnSemverStrictPrintsCard : Claim7 := { stood := { row := fnSemverStrictPrintsRow, standIns := [], harness := (true, "25b80a931c99ffe25d48aa8820aead780c5d40ebeb8b60fd9ef60ebe022319ae"), looks := true }, kinds := [], alts := [], laidByText := true, laidKinds := [.data, .data, .data, .sentinel, .sentinel, .sentinel, .sentinel, .sentinel, .sentinel, .sentinel, .sentinel, .sentinel], laidTests := true, laidLooks := .later }
def FnSemverStrictPrintsCardSaid : Prop := Claim7.holds Tryd.pinned (.plain (OpenSpec.ofChange fnSemverStrictPrintsSpec)) fnSemverStrictPrintsCard

/-- THE SECOND FORM's CARD OF 'laws.FnSemverStrictPrints'. -/
def fnSemverStrictPrintsUptoCard : Claim7 := { stood := { row := fnSemverStrictPrintsUptoRow, standIns := [], harness := (true, "25b80a931c99ffe25d48aa8820aead780c5d40ebeb8b60fd9ef60ebe022319ae"), looks := true }, kinds := [], alts := [], laidByText := true, laidKinds := [.data, .data, .data, .sentinel, .sentinel, .sentinel, .sentinel, .sentinel, .sentinel, .sentinel, .sentinel, .sentinel], laidTests := true, laidLooks := .later }
def FnSemverStrictPrintsUptoCardSaid : Prop := Claim7.holds Tryd.pinned (.plain (OpenSpec.upto fnSemverStrictPrintsSpec)) fnSemverStrictPrintsUptoCard
end Rows
end Go.Proofs.YtdomidlpkffigaaDoor
