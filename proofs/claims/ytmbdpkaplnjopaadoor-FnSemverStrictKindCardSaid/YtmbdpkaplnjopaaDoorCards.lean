/-
  DERIVED. GIVEN WITH THE SEED: THE CARDS: each row of YtmbdpkaplnjopaaDoorRows.lean that lists a variable, with what it lists TIED to the program's text (the seventh form; the later family's looks); each row that meets fmt, with fmt's text TOLD by the authors' own Lean function (tested against real Go, not proved from fmt's source: count such statements apart). THE CARD IS WHAT COUNTS. Prove the row's statement (the work); the ties are given (YtmbdpkaplnjopaaDoorTie.lean); close each card by the builder's one call (the guide's Derived/Test/ToyasCard.lean, 'card_holds'). Laid BY PROGRAM, IN A SANDBOX (cutbox-door.mjs). By AI agents, Wed Nov 11 2026. No macro, syntax, notation, axiom, sorry.
-/
import Derived.Test.YtmbdpkaplnjopaaDoorRows
import GoSem.ClaimSeven
namespace Go.Proofs.YtmbdpkaplnjopaaDoor
namespace Rows

/-- THE TIED CARD OF 'laws.FnSemverStrictKind'. -/
def fnSemverStrictKindCard : Claim7 := { stood := { row := fnSemverStrictKindRow, standIns := [], harness := (true, "7187b229b1b06158f38dca1d47d7832cff0c0c923529e79fec121d92d7985e77"), looks := true }, kinds := [], alts := [], laidByText := true, laidKinds := [.data, .data, .data, .sentinel, .sentinel, .sentinel, .sentinel, .sentinel, .sentinel, .sentinel, .sentinel, .sentinel, .sentinel, .sentinel], laidTests := true, laidLooks := .later }
def FnSemverStrictKindCardSaid : Prop := Claim7.holds Tryd.pinned (.plain (OpenSpec.ofChange fnSemverStrictKindSpec)) fnSemverStrictKindCard

/-- THE SECOND FORM's CARD OF 'laws.FnSemverStrictKind'. -/
def fnSemverStrictKindUptoCard : Claim7 := { stood := { row := fnSemverStrictKindUptoRow, standIns := [], harness := (true, "7187b229b1b06158f38dca1d47d7832cff0c0c923529e79fec121d92d7985e77"), looks := true }, kinds := [], alts := [], laidByText := true, laidKinds := [.data, .data, .data, .sentinel, .sentinel, .sentinel, .sentinel, .sentinel, .sentinel, .sentinel, .sentinel, .sentinel, .sentinel, .sentinel], laidTests := true, laidLooks := .later }
def FnSemverStrictKindUptoCardSaid : Prop := Claim7.holds Tryd.pinned (.plain (OpenSpec.upto fnSemverStrictKindSpec)) fnSemverStrictKindUptoCard
end Rows
end Go.Proofs.YtmbdpkaplnjopaaDoor
