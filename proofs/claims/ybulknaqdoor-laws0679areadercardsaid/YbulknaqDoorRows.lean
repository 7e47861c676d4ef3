/-
  NARROWER THAN 'FOR EVERY INPUT', by the rows' own cells (each row's printed sentence says how): LawS0679APreloaded: laid · LawS0679AReader: laid.
  DERIVED. THE GIVEN ROWS OF THIS SEAT. 2 by the template 'for every input the law returns true; each argument reads behind the call as it read before'; 0 by the template 'total and deterministic' (their statements: YbulknaqDoorTotals.lean).
  GIVEN WITH THE SEED: the statements are not yours to turn. If you find one false, say at which input.
  Laid BY PROGRAM, IN A SANDBOX (cutbox-rows.mjs): the forced cells as the released guide's own fill.sh prints them over the translation 1c216f736d663e4b… (all of the seat's roots in one cut). By AI agents, Wed Nov 11 2026. No macro, syntax, notation, axiom, sorry.
-/
import Derived.Test.YbulknaqDoorChecked
import GoSem.Claim
import GoSem.ClaimJoined
import GoSem.ClaimMapViews
import Derived.JoinedTies
import Derived.KernelRfl
namespace Go.Proofs.YbulknaqDoor
/- THE CELL 'sum', in the pinned program and in every row, IS THE sha256 OF THE DUMP (.gsa) THAT YbulknaqDoorProg.lean LOADS. Nothing in Lean hashes anything: it is a label: what it is worth is what the hold of that sum in a sandbox is worth. -/
noncomputable def Ybad.pinned : Pinned := { name := "ybulknaqdoor", sum := "1c216f736d663e4b0a2ae4706a292c1ac4dcb30aeae86add6c5758f61da3d83b", checked := Ybad.checked }
namespace Rows
def none {H : Type} : Left H := { results := [], args := [] }

/- WHAT THE LISTED PACKAGE-LEVEL VARIABLES READ AS WHEN THE CALL BEGINS. Each datum BY PROGRAM (the guide's laid-datum.mjs) off the statement by which the dump's own 'gosem.cut.vars' lays the variable. In a bare row this is a premise. The card (YbulknaqDoorCards.lean) ties it to the program's text. -/
def laid_io_EOF {H : Type} : DataW H := .iface "*errors.errorString" (.ptr (.agg [.lit (.string [69, 79, 70])]))
def laid_io_ErrNoProgress {H : Type} : DataW H := .iface "*errors.errorString" (.ptr (.agg [.lit (.string [109, 117, 108, 116, 105, 112, 108, 101, 32, 82, 101, 97, 100, 32, 99, 97, 108, 108, 115, 32, 114, 101, 116, 117, 114, 110, 32, 110, 111, 32, 100, 97, 116, 97, 32, 111, 114, 32, 101, 114, 114, 111, 114])]))

/-- 'lamina.LawS0679APreloaded': WHATEVER THE INPUT: true; the input reads as it did. -/
def lawS0679APreloadedSpec : ChangeSpec := { name := "lawS0679APreloaded", fn := fun _ => fun
  | [d1, d2, d3] => { results := [.lit (.bool true)], args := [d1, d2, d3] }
  | _ => none }
def lawS0679APreloadedRow : OpenClaim := { program := "ybulknaqdoor", sum := "1c216f736d663e4b0a2ae4706a292c1ac4dcb30aeae86add6c5758f61da3d83b", func := "example.com/lamina/lamina.LawS0679APreloaded", spec := "lawS0679APreloaded", inPlace := ["internal/reflectlite.TypeOf"], unfollowed := true, recurses := true, named := ["io.EOF", "io.ErrNoProgress", "encoding/binary.LittleEndian"], apart := false, laid := [("io.EOF", laid_io_EOF), ("io.ErrNoProgress", laid_io_ErrNoProgress)] }
def LawS0679APreloadedSaid : Prop := lawS0679APreloadedRow.holds Ybad.pinned (OpenSpec.ofChange lawS0679APreloadedSpec)

/-- ITS FALSE NEIGHBOUR: 'it returns false'. Refute it at one input. -/
def lawS0679APreloadedWrong : ChangeSpec := { name := "lawS0679APreloaded", fn := fun _ => fun
  | [d1, d2, d3] => { results := [.lit (.bool false)], args := [d1, d2, d3] }
  | _ => none }
def LawS0679APreloadedWrongFalsely : Prop := lawS0679APreloadedRow.holds Ybad.pinned (OpenSpec.ofChange lawS0679APreloadedWrong)

/-- 'lamina.LawS0679AReader': WHATEVER THE INPUT: true; the input reads as it did. -/
def lawS0679AReaderSpec : ChangeSpec := { name := "lawS0679AReader", fn := fun _ => fun
  | [d1, d2, d3, d4] => { results := [.lit (.bool true)], args := [d1, d2, d3, d4] }
  | _ => none }
def lawS0679AReaderRow : OpenClaim := { program := "ybulknaqdoor", sum := "1c216f736d663e4b0a2ae4706a292c1ac4dcb30aeae86add6c5758f61da3d83b", func := "example.com/lamina/lamina.LawS0679AReader", spec := "lawS0679AReader", inPlace := ["internal/reflectlite.TypeOf"], unfollowed := true, recurses := true, named := ["io.ErrNoProgress", "io.EOF", "encoding/binary.LittleEndian"], apart := false, laid := [("io.EOF", laid_io_EOF), ("io.ErrNoProgress", laid_io_ErrNoProgress)] }
def LawS0679AReaderSaid : Prop := lawS0679AReaderRow.holds Ybad.pinned (OpenSpec.ofChange lawS0679AReaderSpec)

/-- ITS FALSE NEIGHBOUR: 'it returns false'. Refute it at one input. -/
def lawS0679AReaderWrong : ChangeSpec := { name := "lawS0679AReader", fn := fun _ => fun
  | [d1, d2, d3, d4] => { results := [.lit (.bool false)], args := [d1, d2, d3, d4] }
  | _ => none }
def LawS0679AReaderWrongFalsely : Prop := lawS0679AReaderRow.holds Ybad.pinned (OpenSpec.ofChange lawS0679AReaderWrong)

end Rows
end Go.Proofs.YbulknaqDoor
