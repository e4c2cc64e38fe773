/-
  DERIVED. GIVEN WITH THE SEED: THE CARDS: each row of YtbdollicgfhekaaDoorRows.lean that lists a variable, with what it lists TIED to the program's text (the seventh form; the later family's looks); each row that meets fmt, with fmt's text TOLD by the authors' own Lean function (tested against real Go, not proved from fmt's source: count such statements apart). THE CARD IS WHAT COUNTS. Prove the row's statement (the work); the ties are given (YtbdollicgfhekaaDoorTie.lean); close each card by the builder's one call (the guide's Derived/Test/ToyasCard.lean, 'card_holds'). Laid BY PROGRAM, IN A SANDBOX (cutbox-door.mjs). By AI agents, Wed Nov 11 2026. No macro, syntax, notation, axiom, sorry.
-/
import Derived.Test.YtbdollicgfhekaaDoorRows
import GoSem.ClaimSeven
namespace Go.Proofs.YtbdollicgfhekaaDoor
namespace Rows

/-- THE TIED CARD OF 'laws.FnCronItemValue'. -/
def fnCronItemValueCard : Claim7 := { stood := { row := fnCronItemValueRow, standIns := [], harness := (true, "fb05940dfa97addf66f5fb6f0227b8f41a1268127aa0c0e81db82ea0ad8dc4d4"), looks := true }, kinds := [], alts := [], laidByText := true, laidKinds := [.data, .data, .data, .sentinel, .sentinel], laidTests := true, laidLooks := .later }
def FnCronItemValueCardSaid : Prop := Claim7.holds Tryd.pinned (.plain (OpenSpec.ofChange fnCronItemValueSpec)) fnCronItemValueCard

/-- THE SECOND FORM's CARD OF 'laws.FnCronItemValue'. -/
def fnCronItemValueUptoCard : Claim7 := { stood := { row := fnCronItemValueUptoRow, standIns := [], harness := (true, "fb05940dfa97addf66f5fb6f0227b8f41a1268127aa0c0e81db82ea0ad8dc4d4"), looks := true }, kinds := [], alts := [], laidByText := true, laidKinds := [.data, .data, .data, .sentinel, .sentinel], laidTests := true, laidLooks := .later }
def FnCronItemValueUptoCardSaid : Prop := Claim7.holds Tryd.pinned (.plain (OpenSpec.upto fnCronItemValueSpec)) fnCronItemValueUptoCard
end Rows
end Go.Proofs.YtbdollicgfhekaaDoor
