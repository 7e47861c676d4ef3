/-
  DERIVED. GIVEN WITH THE SEED: THE CARDS: each row of YbulknaqDoorRows.lean that lists a variable, with what it lists TIED to the program's text (the seventh form; the later family's looks); each row that meets fmt, with fmt's text TOLD by the authors' own Lean function (tested against real Go, not proved from fmt's source: count such statements apart). THE CARD IS WHAT COUNTS. Prove the row's statement (the work); the ties are given (YbulknaqDoorTie.lean); close each card by the builder's one call (the guide's Derived/Test/ToyasCard.lean, 'card_holds'). Laid BY PROGRAM, IN A SANDBOX (cutbox-door.mjs). By AI agents, Wed Nov 11 2026. No macro, syntax, notation, axiom, sorry.
-/
import Derived.Test.YbulknaqDoorRows
import GoSem.ClaimSeven
namespace Go.Proofs.YbulknaqDoor
namespace Rows

/-- THE TIED CARD OF 'lamina.LawS0679APreloaded'. -/
def lawS0679APreloadedCard : Claim7 := { stood := { row := lawS0679APreloadedRow, standIns := [], harness := (true, "d9ad50f87c47f6078710dcf0dbbaaf069d0f70e6cb06b39a184be04d405070cf"), looks := true }, kinds := [], alts := [], laidByText := true, laidKinds := [.sentinel, .sentinel], laidTests := true, laidLooks := .later }
def LawS0679APreloadedCardSaid : Prop := Claim7.holds Ybad.pinned (.plain (OpenSpec.ofChange lawS0679APreloadedSpec)) lawS0679APreloadedCard

/-- THE TIED CARD OF 'lamina.LawS0679AReader'. -/
def lawS0679AReaderCard : Claim7 := { stood := { row := lawS0679AReaderRow, standIns := [], harness := (true, "d9ad50f87c47f6078710dcf0dbbaaf069d0f70e6cb06b39a184be04d405070cf"), looks := true }, kinds := [], alts := [], laidByText := true, laidKinds := [.sentinel, .sentinel], laidTests := true, laidLooks := .later }
def LawS0679AReaderCardSaid : Prop := Claim7.holds Ybad.pinned (.plain (OpenSpec.ofChange lawS0679AReaderSpec)) lawS0679AReaderCard
end Rows
end Go.Proofs.YbulknaqDoor
