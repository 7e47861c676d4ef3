/-
  DERIVED. GIVEN WITH THE SEED: THE CARDS: each row of YbulknbsFmtRows.lean that lists a variable, with what it lists TIED to the program's text (the seventh form; the later family's looks); each row that meets fmt, with fmt's text TOLD by the authors' own Lean function (tested against real Go, not proved from fmt's source: count such statements apart). THE CARD IS WHAT COUNTS. Prove the row's statement (the work); the ties are given (YbulknbsFmtTie.lean); close each card by the builder's one call (the guide's Derived/Test/ToyasCard.lean, 'card_holds'). Laid BY PROGRAM, IN A SANDBOX (cutbox-door.mjs). By AI agents, Wed Nov 11 2026. No macro, syntax, notation, axiom, sorry.
-/
import Derived.Test.YbulknbsFmtRows
import GoSem.ClaimSeven
namespace Go.Proofs.YbulknbsFmt
namespace Rows

/-- THE TOLD AND TIED CARD OF 'bmp.LawS0681ASimple'. -/
def lawS0681ASimpleCard : Claim7 := { stood := { row := lawS0681ASimpleRow, standIns := [], harness := (true, "46725c042c87f323eafc7ff9055812ace043cccb38873cc789d415091b5a9779"), looks := false }, told := true, laidByText := true, laidKinds := [.data, .data, .data, .called, .called, .widerDeep, .zero], laidTests := true, laidLooks := .later, goes := false }
def LawS0681ASimpleToldSaid : Prop := Claim7.holds Ybaf.pinned (.plain (OpenSpec.ofChange lawS0681ASimpleSpec)) lawS0681ASimpleCard
/-- ITS FALSE NEIGHBOUR. Refute it at one input. -/
def LawS0681ASimpleToldWrongFalsely : Prop := Claim7.holds Ybaf.pinned (.plain (OpenSpec.ofChange lawS0681ASimpleWrong)) lawS0681ASimpleCard

/-- THE TOLD AND TIED CARD OF 'bmp.LawS0681AASPath'. -/
def lawS0681AASPathCard : Claim7 := { stood := { row := lawS0681AASPathRow, standIns := [], harness := (true, "46725c042c87f323eafc7ff9055812ace043cccb38873cc789d415091b5a9779"), looks := false }, told := true, laidByText := true, laidKinds := [.data, .data, .data, .called, .called, .widerDeep, .zero], laidTests := true, laidLooks := .later, goes := false }
def LawS0681AASPathToldSaid : Prop := Claim7.holds Ybaf.pinned (.plain (OpenSpec.ofChange lawS0681AASPathSpec)) lawS0681AASPathCard
/-- ITS FALSE NEIGHBOUR. Refute it at one input. -/
def LawS0681AASPathToldWrongFalsely : Prop := Claim7.holds Ybaf.pinned (.plain (OpenSpec.ofChange lawS0681AASPathWrong)) lawS0681AASPathCard

/-- THE TOLD AND TIED CARD OF 'bmp.LawS0681BModel'. -/
def lawS0681BModelCard : Claim7 := { stood := { row := lawS0681BModelRow, standIns := [], harness := (true, "46725c042c87f323eafc7ff9055812ace043cccb38873cc789d415091b5a9779"), looks := false }, told := true, laidByText := true, laidKinds := [.mapped], laidTests := true, laidLooks := .later, goes := false }
def LawS0681BModelToldSaid : Prop := Claim7.holds Ybaf.pinned (.plain (OpenSpec.ofChange lawS0681BModelSpec)) lawS0681BModelCard
/-- ITS FALSE NEIGHBOUR. Refute it at one input. -/
def LawS0681BModelToldWrongFalsely : Prop := Claim7.holds Ybaf.pinned (.plain (OpenSpec.ofChange lawS0681BModelWrong)) lawS0681BModelCard

/-- THE TOLD AND TIED CARD OF 'bmp.LawS0681BFramed'. -/
def lawS0681BFramedCard : Claim7 := { stood := { row := lawS0681BFramedRow, standIns := [], harness := (true, "46725c042c87f323eafc7ff9055812ace043cccb38873cc789d415091b5a9779"), looks := false }, told := true, laidByText := true, laidKinds := [.mapped], laidTests := true, laidLooks := .later, goes := false }
def LawS0681BFramedToldSaid : Prop := Claim7.holds Ybaf.pinned (.plain (OpenSpec.ofChange lawS0681BFramedSpec)) lawS0681BFramedCard
/-- ITS FALSE NEIGHBOUR. Refute it at one input. -/
def LawS0681BFramedToldWrongFalsely : Prop := Claim7.holds Ybaf.pinned (.plain (OpenSpec.ofChange lawS0681BFramedWrong)) lawS0681BFramedCard

/-- THE TOLD CARD OF 'bmp.LawS0681CMerge'. -/
def lawS0681CMergeCard : Claim7 := { stood := { row := lawS0681CMergeRow, standIns := [], harness := (true, "46725c042c87f323eafc7ff9055812ace043cccb38873cc789d415091b5a9779"), looks := false }, told := true, goes := false }
def LawS0681CMergeToldSaid : Prop := Claim7.holds Ybaf.pinned (.plain (OpenSpec.ofChange lawS0681CMergeSpec)) lawS0681CMergeCard
/-- ITS FALSE NEIGHBOUR. Refute it at one input. -/
def LawS0681CMergeToldWrongFalsely : Prop := Claim7.holds Ybaf.pinned (.plain (OpenSpec.ofChange lawS0681CMergeWrong)) lawS0681CMergeCard
end Rows
end Go.Proofs.YbulknbsFmt
