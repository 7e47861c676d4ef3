/-
  The seat's closed facts, the witness's world, what the listed sentinel gives, the data opened.
-/
import Derived.Test.YbulknaqDoorRdr
import Derived.Test.YbulknaqDoorTie
import Derived.Test.YbulknaqDoorCards
import Derived.ProofKit
import Derived.OpenShut
import Derived.ChangeSame
import Derived.ChangeVars
import Derived.JoinedOf
import Derived.RowKitTokens
import Derived.LaidLaws
import Derived.Stop.Joined
import Derived.Stop.LaidErr
import Derived.Carry
import Derived.SevenTiedAt
namespace Go.Proofs.YbulknaqDoor
open Go.ChangeShapes Go.WideShapes Go.ChangeAt Go.RowKit

theorem own : ownKnob Ybad.prog.godebug = Option.none := by kernel_rfl
theorem laidOut : laidOutB Ybad.prog = true := by kernel_rfl
theorem gEOF : Ybad.prog.globalNamed "io.EOF" = some 0 := by kernel_rfl

/-- the world of the witness: the two sentinels laid in the last two blocks -/
def laidOver (w : World) : World :=
  { w with heap := (w.heap.modify 0 fun
      | .cells _ t frozen => .cells #[.iface 78 (.pointer (some ⟨w.heap.size - 2, 0, none⟩))] t frozen
      | o => o).modify 2 fun
      | .cells _ t frozen => .cells #[.iface 78 (.pointer (some ⟨w.heap.size - 1, 0, none⟩))] t frozen
      | o => o }
def errB (s : ByteArray) : Obj := .cells #[.string s] 106
def eofS : ByteArray := ⟨#[69, 79, 70]⟩
def nopS : ByteArray := ⟨#[109, 117, 108, 116, 105, 112, 108, 101, 32, 82, 101, 97, 100, 32, 99, 97, 108, 108, 115, 32, 114, 101, 116, 117, 114, 110, 32, 110, 111, 32, 100, 97, 116, 97, 32, 111, 114, 32, 101, 114, 114, 111, 114]⟩

theorem laid_met (os : Os) (args : Array Value) : laidMet Ybad.prog Rows.lawS0679APreloadedRow.laid ((laidOver (World.holding Ybad.prog os ⟨#[errB eofS, errB nopS], #[], []⟩)).forCall (fun _ _ => 0) ⟨#[], args, []⟩).memory :=
  laidMet_of_run' 8 (by kernel_rfl) (by kernel_rfl)

/-- the sentinels' type's name, as the row gives it -/
def starN : String := match (Rows.laid_io_EOF (H := Unit)) with | .iface n _ => n | _ => ""
theorem row78 (u : TypeId) (h : Ybad.prog.typeName? 3 u = some starN) : u = 78 :=
  typeName_ptr_named (nm := "errors.errorString") (by kernel_rfl) (by kernel_rfl) (by decide) u (h.trans (by kernel_rfl))
theorem eof_of {W : World} (h : laidMet Ybad.prog Rows.lawS0679APreloadedRow.laid W) : ∃ a : Addr, W.cell? ⟨0, 0, none⟩ = some (.iface 78 (.pointer (some a))) := by
  obtain ⟨a, s, hv, _, _, _⟩ := laid_sentinel (g := 0) h gEOF (by kernel_rfl) Ybad.underlying28 row78 Ybad.underlying78 Ybad.underlying106 rfl rfl Ybad.underlying9 (by kernel_rfl) (by kernel_rfl)
  exact ⟨a, by simpa using World.var?_cell gEOF hv 0⟩

/-- the data as it came in, opened -/
theorem data_of {H : Type} {enc : TypeId × Value → H} {W : World} {a0 : Option Addr} {len cap fuel : Nat} {x : DataW H × List MemPlace} (h : DataW.trod enc Ybad.prog W 0 (fun _ => true) true fuel 22 (Value.slice a0 len cap).cells.toList = some x) :
    ∃ zs : List Int, len ≤ cap ∧ (∀ j : Nat, 0 ≤ zs[j]?.getD 0 ∧ zs[j]?.getD 0 ≤ 255) ∧ DataAt W a0 len zs := by
  rcases open_ints Ybad.underlying22 Ybad.underlying5 (by kernel_rfl) h with ⟨hcs, _⟩ | ⟨x, l, c, zs, hcs, _, hl, hm, hz, _, hcell, hwz⟩
  · simp [Value.cells] at hcs
    obtain ⟨rfl, rfl, rfl⟩ := hcs
    exact ⟨[], Nat.le_refl _, fun j => by simp, fun h => by omega⟩
  · simp [Value.cells] at hcs
    obtain ⟨rfl, rfl, rfl⟩ := hcs
    simp only [if_true] at hz
    refine ⟨zs, hl, range_u8 hwz, fun hp => ?_⟩
    obtain ⟨b, off, rfl, hc⟩ := ints_at hcell (by omega)
    exact ⟨b, off, rfl, fun i hi => hc i (by omega)⟩

end Go.Proofs.YbulknaqDoor
