/-
  DERIVED. GIVEN WITH THE SEED: THE CARDS: each row of YtfebpbflpdppiaaGreatDoorRows.lean that lists a variable, with what it lists TIED to the program's text (the seventh form; the later family's looks); each row that meets fmt, with fmt's text TOLD by the authors' own Lean function (tested against real Go, not proved from fmt's source: count such statements apart). THE CARD IS WHAT COUNTS. Prove the row's statement (the work); the ties are given (YtfebpbflpdppiaaGreatDoorTie.lean); close each card by the builder's one call (the guide's Derived/Test/ToyasCard.lean, 'card_holds'). Laid BY PROGRAM, IN A SANDBOX (cutbox-door.mjs). By AI agents, Wed Nov 11 2026. No macro, syntax, notation, axiom, sorry.
-/
import Derived.Test.YtfebpbflpdppiaaGreatDoorRows
import GoSem.ClaimSeven
namespace Go.Proofs.YtfebpbflpdppiaaGreatDoor
namespace Rows

/-- THE TIED CARD OF 'laws.FnFiles'. -/
def fnFilesCard : Claim7 := { stood := { row := fnFilesRow, standIns := [], harness := (true, "7177cf3e52fa16f175498f7e604e5e6a98a73c2090b3cf8ce660fbf8ce0108e8"), looks := true }, kinds := [], alts := [], laidByText := true, laidKinds := [.sentinel, .sentinel], laidTests := true, laidLooks := .later }
def FnFilesCardSaid : Prop := Claim7.holds Tryz.pinned (.plain (OpenSpec.ofChange fnFilesSpec)) fnFilesCard

/-- THE TIED CARD OF 'laws.FnFilesLevels'. -/
def fnFilesLevelsCard : Claim7 := { stood := { row := fnFilesLevelsRow, standIns := [], harness := (true, "7177cf3e52fa16f175498f7e604e5e6a98a73c2090b3cf8ce660fbf8ce0108e8"), looks := true }, kinds := [], alts := [], laidByText := true, laidKinds := [.sentinel, .sentinel], laidTests := true, laidLooks := .later }
def FnFilesLevelsCardSaid : Prop := Claim7.holds Tryz.pinned (.plain (OpenSpec.ofChange fnFilesLevelsSpec)) fnFilesLevelsCard

/-- THE SECOND FORM's CARD OF 'laws.FnFiles'. -/
def fnFilesUptoCard : Claim7 := { stood := { row := fnFilesUptoRow, standIns := [], harness := (true, "7177cf3e52fa16f175498f7e604e5e6a98a73c2090b3cf8ce660fbf8ce0108e8"), looks := true }, kinds := [], alts := [], laidByText := true, laidKinds := [.sentinel, .sentinel], laidTests := true, laidLooks := .later }
def FnFilesUptoCardSaid : Prop := Claim7.holds Tryz.pinned (.plain (OpenSpec.upto fnFilesSpec)) fnFilesUptoCard

/-- THE SECOND FORM's CARD OF 'laws.FnFilesLevels'. -/
def fnFilesLevelsUptoCard : Claim7 := { stood := { row := fnFilesLevelsUptoRow, standIns := [], harness := (true, "7177cf3e52fa16f175498f7e604e5e6a98a73c2090b3cf8ce660fbf8ce0108e8"), looks := true }, kinds := [], alts := [], laidByText := true, laidKinds := [.sentinel, .sentinel], laidTests := true, laidLooks := .later }
def FnFilesLevelsUptoCardSaid : Prop := Claim7.holds Tryz.pinned (.plain (OpenSpec.upto fnFilesLevelsSpec)) fnFilesLevelsUptoCard
end Rows
end Go.Proofs.YtfebpbflpdppiaaGreatDoor
