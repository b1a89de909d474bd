/-
  DERIVED. GIVEN WITH THE SEED: THE CARDS: each row of YbulkingDoorRows.lean that lists a variable, with what it lists TIED to the program's text (the seventh form; the later family's looks); each row that meets fmt, with fmt's text TOLD by the authors' own Lean function (tested against real Go, not proved from fmt's source: count such statements apart). THE CARD IS WHAT COUNTS. Prove the row's statement (the work); the ties are given (YbulkingDoorTie.lean); close each card by the builder's one call (the guide's Derived/Test/ToyasCard.lean, 'card_holds'). Laid BY PROGRAM, IN A SANDBOX (cutbox-door.mjs). By AI agents, Wed Nov 11 2026. No macro, syntax, notation, axiom, sorry.
-/
import Derived.Test.YbulkingDoorRows
import GoSem.ClaimSeven
namespace Go.Proofs.YbulkingDoor
namespace Rows

/-- THE TIED CARD OF 'iprange.LawS0461BModel'. -/
def lawS0461BModelCard : Claim7 := { stood := { row := lawS0461BModelRow, standIns := [], harness := (true, "082c5fec1ef216905552eb97494c7666e1dd7b16428fb8398678fb32e8dbe792"), looks := false }, kinds := [], alts := [], laidByText := true, laidKinds := [.called, .called, .zero], laidTests := true, laidLooks := .later }
def LawS0461BModelCardSaid : Prop := Claim7.holds Ybad.pinned (.plain (OpenSpec.ofChange lawS0461BModelSpec)) lawS0461BModelCard

/-- THE TIED CARD OF 'iprange.LawS0461BIdem'. -/
def lawS0461BIdemCard : Claim7 := { stood := { row := lawS0461BIdemRow, standIns := [], harness := (true, "082c5fec1ef216905552eb97494c7666e1dd7b16428fb8398678fb32e8dbe792"), looks := false }, kinds := [], alts := [], laidByText := true, laidKinds := [.called, .called, .zero], laidTests := true, laidLooks := .later }
def LawS0461BIdemCardSaid : Prop := Claim7.holds Ybad.pinned (.plain (OpenSpec.ofChange lawS0461BIdemSpec)) lawS0461BIdemCard

/-- THE TIED CARD OF 'feed.LawS0461CPieces'. -/
def lawS0461CPiecesCard : Claim7 := { stood := { row := lawS0461CPiecesRow, standIns := [], harness := (true, "082c5fec1ef216905552eb97494c7666e1dd7b16428fb8398678fb32e8dbe792"), looks := false }, kinds := [], alts := [], laidByText := true, laidKinds := [.data, .listed, .data, .pinned], laidTests := true, laidLooks := .later }
def LawS0461CPiecesCardSaid : Prop := Claim7.holds Ybad.pinned (.plain (OpenSpec.ofChange lawS0461CPiecesSpec)) lawS0461CPiecesCard

/-- THE TIED CARD OF 'feed.LawS0461CRaw'. -/
def lawS0461CRawCard : Claim7 := { stood := { row := lawS0461CRawRow, standIns := [], harness := (true, "082c5fec1ef216905552eb97494c7666e1dd7b16428fb8398678fb32e8dbe792"), looks := false }, kinds := [], alts := [], laidByText := true, laidKinds := [.data, .listed, .data, .pinned], laidTests := true, laidLooks := .later }
def LawS0461CRawCardSaid : Prop := Claim7.holds Ybad.pinned (.plain (OpenSpec.ofChange lawS0461CRawSpec)) lawS0461CRawCard
end Rows
end Go.Proofs.YbulkingDoor
