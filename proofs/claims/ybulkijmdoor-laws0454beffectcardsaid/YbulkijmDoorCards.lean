/-
  DERIVED. GIVEN WITH THE SEED: THE CARDS: each row of YbulkijmDoorRows.lean that lists a variable, with what it lists TIED to the program's text (the seventh form; the later family's looks); each row that meets fmt, with fmt's text TOLD by the authors' own Lean function (tested against real Go, not proved from fmt's source: count such statements apart). THE CARD IS WHAT COUNTS. Prove the row's statement (the work); the ties are given (YbulkijmDoorTie.lean); close each card by the builder's one call (the guide's Derived/Test/ToyasCard.lean, 'card_holds'). Laid BY PROGRAM, IN A SANDBOX (cutbox-door.mjs). By AI agents, Wed Nov 11 2026. No macro, syntax, notation, axiom, sorry.
-/
import Derived.Test.YbulkijmDoorRows
import GoSem.ClaimSeven
namespace Go.Proofs.YbulkijmDoor
namespace Rows

/-- THE TIED CARD OF 'rookery.LawS0454BEffect'. -/
def lawS0454BEffectCard : Claim7 := { stood := { row := lawS0454BEffectRow, standIns := [], harness := (true, "8d899f3692cd6e34044283317da21e119c08a8b26bebaa2af695c557f2b706a8"), looks := true }, kinds := [], alts := [], laidByText := true, laidKinds := [.sentinel], laidTests := true, laidLooks := .later }
def LawS0454BEffectCardSaid : Prop := Claim7.holds Ybad.pinned (.plain (OpenSpec.ofChange lawS0454BEffectSpec)) lawS0454BEffectCard
end Rows
end Go.Proofs.YbulkijmDoor
