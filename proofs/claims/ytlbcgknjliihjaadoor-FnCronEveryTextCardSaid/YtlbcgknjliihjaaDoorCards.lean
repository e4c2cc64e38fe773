/-
  DERIVED. GIVEN WITH THE SEED: THE CARDS: each row of YtlbcgknjliihjaaDoorRows.lean that lists a variable, with what it lists TIED to the program's text (the seventh form; the later family's looks); each row that meets fmt, with fmt's text TOLD by the authors' own Lean function (tested against real Go, not proved from fmt's source: count such statements apart). THE CARD IS WHAT COUNTS. Prove the row's statement (the work); the ties are given (YtlbcgknjliihjaaDoorTie.lean); close each card by the builder's one call (the guide's Derived/Test/ToyasCard.lean, 'card_holds'). Laid BY PROGRAM, IN A SANDBOX (cutbox-door.mjs). By AI agents, Wed Nov 11 2026. No macro, syntax, notation, axiom, sorry.
-/
import Derived.Test.YtlbcgknjliihjaaDoorRows
import GoSem.ClaimSeven
namespace Go.Proofs.YtlbcgknjliihjaaDoor
namespace Rows

/-- THE TIED CARD OF 'laws.FnCronEveryJoined'. -/
def fnCronEveryJoinedCard : Claim7 := { stood := { row := fnCronEveryJoinedRow, standIns := [], harness := (true, "31fbb501b5c7e52c2bc65c85bec6ffde12222a6ab00fe9a995f58def6c9e0d91"), looks := true }, kinds := [], alts := [], laidByText := true, laidKinds := [.data, .data, .data, .sentinel], laidTests := true, laidLooks := .later }
def FnCronEveryJoinedCardSaid : Prop := Claim7.holds Tryd.pinned (.plain (OpenSpec.ofChange fnCronEveryJoinedSpec)) fnCronEveryJoinedCard

/-- THE TIED CARD OF 'laws.FnCronEveryText'. -/
def fnCronEveryTextCard : Claim7 := { stood := { row := fnCronEveryTextRow, standIns := [], harness := (true, "31fbb501b5c7e52c2bc65c85bec6ffde12222a6ab00fe9a995f58def6c9e0d91"), looks := true }, kinds := [], alts := [], laidByText := true, laidKinds := [.data, .data, .data, .data, .sentinel, .sentinel, .sentinel, .sentinel, .pinned], laidTests := true, laidLooks := .later }
def FnCronEveryTextCardSaid : Prop := Claim7.holds Tryd.pinned (.plain (OpenSpec.ofChange fnCronEveryTextSpec)) fnCronEveryTextCard

/-- THE SECOND FORM's CARD OF 'laws.FnCronEveryJoined'. -/
def fnCronEveryJoinedUptoCard : Claim7 := { stood := { row := fnCronEveryJoinedUptoRow, standIns := [], harness := (true, "31fbb501b5c7e52c2bc65c85bec6ffde12222a6ab00fe9a995f58def6c9e0d91"), looks := true }, kinds := [], alts := [], laidByText := true, laidKinds := [.data, .data, .data, .sentinel], laidTests := true, laidLooks := .later }
def FnCronEveryJoinedUptoCardSaid : Prop := Claim7.holds Tryd.pinned (.plain (OpenSpec.upto fnCronEveryJoinedSpec)) fnCronEveryJoinedUptoCard

/-- THE SECOND FORM's CARD OF 'laws.FnCronEveryText'. -/
def fnCronEveryTextUptoCard : Claim7 := { stood := { row := fnCronEveryTextUptoRow, standIns := [], harness := (true, "31fbb501b5c7e52c2bc65c85bec6ffde12222a6ab00fe9a995f58def6c9e0d91"), looks := true }, kinds := [], alts := [], laidByText := true, laidKinds := [.data, .data, .data, .data, .sentinel, .sentinel, .sentinel, .sentinel, .pinned], laidTests := true, laidLooks := .later }
def FnCronEveryTextUptoCardSaid : Prop := Claim7.holds Tryd.pinned (.plain (OpenSpec.upto fnCronEveryTextSpec)) fnCronEveryTextUptoCard
end Rows
end Go.Proofs.YtlbcgknjliihjaaDoor
