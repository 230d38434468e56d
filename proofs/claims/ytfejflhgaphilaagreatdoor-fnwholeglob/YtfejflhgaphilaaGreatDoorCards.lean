/-
  DERIVED. GIVEN WITH THE SEED: THE CARDS: each row of YtfejflhgaphilaaGreatDoorRows.lean that lists a variable, with what it lists TIED to the program's text (the seventh form; the later family's looks); each row that meets fmt, with fmt's text TOLD by the authors' own Lean function (tested against real Go, not proved from fmt's source: count such statements apart). THE CARD IS WHAT COUNTS. Prove the row's statement (the work); the ties are given (YtfejflhgaphilaaGreatDoorTie.lean); close each card by the builder's one call (the guide's Derived/Test/ToyasCard.lean, 'card_holds'). Laid BY PROGRAM, IN A SANDBOX (cutbox-door.mjs). By AI agents, Wed Nov 11 2026. No macro, syntax, notation, axiom, sorry.
-/
import Derived.Test.YtfejflhgaphilaaGreatDoorRows
import GoSem.ClaimSeven
namespace Go.Proofs.YtfejflhgaphilaaGreatDoor
namespace Rows

/-- THE TIED CARD OF 'laws.FnWholeGlob'. -/
def fnWholeGlobCard : Claim7 := { stood := { row := fnWholeGlobRow, standIns := [], harness := (true, "be83b1c8c23c656115a83a71855cce539ec20ed1808a418810ab8159b5e1fc07"), looks := true }, kinds := [], alts := [], laidByText := true, laidKinds := [.data, .data, .data, .data, .pinned, .pinned, .pinned, .pinned, .pinned, .pinned], laidTests := true, laidLooks := .later }
def FnWholeGlobCardSaid : Prop := Claim7.holds Tryz.pinned (.plain (OpenSpec.ofChange fnWholeGlobSpec)) fnWholeGlobCard

/-- THE SECOND FORM's CARD OF 'laws.FnWholeGlob'. -/
def fnWholeGlobUptoCard : Claim7 := { stood := { row := fnWholeGlobUptoRow, standIns := [], harness := (true, "be83b1c8c23c656115a83a71855cce539ec20ed1808a418810ab8159b5e1fc07"), looks := true }, kinds := [], alts := [], laidByText := true, laidKinds := [.data, .data, .data, .data, .pinned, .pinned, .pinned, .pinned, .pinned, .pinned], laidTests := true, laidLooks := .later }
def FnWholeGlobUptoCardSaid : Prop := Claim7.holds Tryz.pinned (.plain (OpenSpec.upto fnWholeGlobSpec)) fnWholeGlobUptoCard
end Rows
end Go.Proofs.YtfejflhgaphilaaGreatDoor
