/-
  DERIVED. GIVEN WITH THE SEED: THE CARDS: each row of YtonfhgnegchgeaaDoorRows.lean that lists a variable, with what it lists TIED to the program's text (the seventh form; the later family's looks); each row that meets fmt, with fmt's text TOLD by the authors' own Lean function (tested against real Go, not proved from fmt's source: count such statements apart). THE CARD IS WHAT COUNTS. Prove the row's statement (the work); the ties are given (YtonfhgnegchgeaaDoorTie.lean); close each card by the builder's one call (the guide's Derived/Test/ToyasCard.lean, 'card_holds'). Laid BY PROGRAM, IN A SANDBOX (cutbox-door.mjs). By AI agents, Wed Nov 11 2026. No macro, syntax, notation, axiom, sorry.
-/
import Derived.Test.YtonfhgnegchgeaaDoorRows
import GoSem.ClaimSeven
namespace Go.Proofs.YtonfhgnegchgeaaDoor
namespace Rows

/-- THE TIED CARD OF 'laws.FnUnpacked'. -/
def fnUnpackedCard : Claim7 := { stood := { row := fnUnpackedRow, standIns := [], harness := (true, "390e9c3e754a6d16cb4aa6debb2d58fca4ad492c33c680687815bca433bf8cef"), looks := true }, kinds := [], alts := [], laidByText := true, laidKinds := [.sentinel, .sentinel, .sentinel, .sentinel], laidTests := true, laidLooks := .later }
def FnUnpackedCardSaid : Prop := Claim7.holds Tryd.pinned (.plain (OpenSpec.ofChange fnUnpackedSpec)) fnUnpackedCard

/-- THE TIED CARD OF 'laws.FnLevelsRead'. -/
def fnLevelsReadCard : Claim7 := { stood := { row := fnLevelsReadRow, standIns := [], harness := (true, "390e9c3e754a6d16cb4aa6debb2d58fca4ad492c33c680687815bca433bf8cef"), looks := true }, kinds := [], alts := [], laidByText := true, laidKinds := [.sentinel, .sentinel, .sentinel, .sentinel], laidTests := true, laidLooks := .later }
def FnLevelsReadCardSaid : Prop := Claim7.holds Tryd.pinned (.plain (OpenSpec.ofChange fnLevelsReadSpec)) fnLevelsReadCard

/-- THE TIED CARD OF 'laws.FnPackedThere'. -/
def fnPackedThereCard : Claim7 := { stood := { row := fnPackedThereRow, standIns := [], harness := (true, "390e9c3e754a6d16cb4aa6debb2d58fca4ad492c33c680687815bca433bf8cef"), looks := true }, kinds := [], alts := [], laidByText := true, laidKinds := [.sentinel, .sentinel, .sentinel, .sentinel], laidTests := true, laidLooks := .later }
def FnPackedThereCardSaid : Prop := Claim7.holds Tryd.pinned (.plain (OpenSpec.ofChange fnPackedThereSpec)) fnPackedThereCard

/-- THE SECOND FORM's CARD OF 'laws.FnUnpacked'. -/
def fnUnpackedUptoCard : Claim7 := { stood := { row := fnUnpackedUptoRow, standIns := [], harness := (true, "390e9c3e754a6d16cb4aa6debb2d58fca4ad492c33c680687815bca433bf8cef"), looks := true }, kinds := [], alts := [], laidByText := true, laidKinds := [.sentinel, .sentinel, .sentinel, .sentinel], laidTests := true, laidLooks := .later }
def FnUnpackedUptoCardSaid : Prop := Claim7.holds Tryd.pinned (.plain (OpenSpec.upto fnUnpackedSpec)) fnUnpackedUptoCard

/-- THE SECOND FORM's CARD OF 'laws.FnLevelsRead'. -/
def fnLevelsReadUptoCard : Claim7 := { stood := { row := fnLevelsReadUptoRow, standIns := [], harness := (true, "390e9c3e754a6d16cb4aa6debb2d58fca4ad492c33c680687815bca433bf8cef"), looks := true }, kinds := [], alts := [], laidByText := true, laidKinds := [.sentinel, .sentinel, .sentinel, .sentinel], laidTests := true, laidLooks := .later }
def FnLevelsReadUptoCardSaid : Prop := Claim7.holds Tryd.pinned (.plain (OpenSpec.upto fnLevelsReadSpec)) fnLevelsReadUptoCard

/-- THE SECOND FORM's CARD OF 'laws.FnPackedThere'. -/
def fnPackedThereUptoCard : Claim7 := { stood := { row := fnPackedThereUptoRow, standIns := [], harness := (true, "390e9c3e754a6d16cb4aa6debb2d58fca4ad492c33c680687815bca433bf8cef"), looks := true }, kinds := [], alts := [], laidByText := true, laidKinds := [.sentinel, .sentinel, .sentinel, .sentinel], laidTests := true, laidLooks := .later }
def FnPackedThereUptoCardSaid : Prop := Claim7.holds Tryd.pinned (.plain (OpenSpec.upto fnPackedThereSpec)) fnPackedThereUptoCard
end Rows
end Go.Proofs.YtonfhgnegchgeaaDoor
