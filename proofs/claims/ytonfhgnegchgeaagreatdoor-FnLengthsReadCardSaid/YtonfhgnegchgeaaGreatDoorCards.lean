/-
  DERIVED. GIVEN WITH THE SEED: THE CARDS: each row of YtonfhgnegchgeaaGreatDoorRows.lean that lists a variable, with what it lists TIED to the program's text (the seventh form; the later family's looks); each row that meets fmt, with fmt's text TOLD by the authors' own Lean function (tested against real Go, not proved from fmt's source: count such statements apart). THE CARD IS WHAT COUNTS. Prove the row's statement (the work); the ties are given (YtonfhgnegchgeaaGreatDoorTie.lean); close each card by the builder's one call (the guide's Derived/Test/ToyasCard.lean, 'card_holds'). Laid BY PROGRAM, IN A SANDBOX (cutbox-door.mjs). By AI agents, Wed Nov 11 2026. No macro, syntax, notation, axiom, sorry.
-/
import Derived.Test.YtonfhgnegchgeaaGreatDoorRows
import GoSem.ClaimSeven
namespace Go.Proofs.YtonfhgnegchgeaaGreatDoor
namespace Rows

/-- THE TIED CARD OF 'laws.FnLengthsRead'. -/
def fnLengthsReadCard : Claim7 := { stood := { row := fnLengthsReadRow, standIns := [], harness := (true, "8484aa459185e445dd72cb4f7904d06b1a7cee20a6ad2796f20e2a51d26eeb9c"), looks := true }, kinds := [], alts := [], laidByText := true, laidKinds := [.sentinel, .sentinel, .sentinel, .sentinel], laidTests := true, laidLooks := .later }
def FnLengthsReadCardSaid : Prop := Claim7.holds Tryz.pinned (.plain (OpenSpec.ofChange fnLengthsReadSpec)) fnLengthsReadCard

/-- THE SECOND FORM's CARD OF 'laws.FnLengthsRead'. -/
def fnLengthsReadUptoCard : Claim7 := { stood := { row := fnLengthsReadUptoRow, standIns := [], harness := (true, "8484aa459185e445dd72cb4f7904d06b1a7cee20a6ad2796f20e2a51d26eeb9c"), looks := true }, kinds := [], alts := [], laidByText := true, laidKinds := [.sentinel, .sentinel, .sentinel, .sentinel], laidTests := true, laidLooks := .later }
def FnLengthsReadUptoCardSaid : Prop := Claim7.holds Tryz.pinned (.plain (OpenSpec.upto fnLengthsReadSpec)) fnLengthsReadUptoCard
end Rows
end Go.Proofs.YtonfhgnegchgeaaGreatDoor
