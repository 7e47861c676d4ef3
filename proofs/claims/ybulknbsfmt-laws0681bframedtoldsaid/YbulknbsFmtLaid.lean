/-
  The seat's closed facts, the witness's world, the listed map opened, the data opened.
-/
import Derived.Test.YbulknbsFmtCheck
import Derived.Test.YbulknbsFmtTie
import Derived.Test.YbulknbsFmtCards
import Derived.ProofKit
import Derived.OpenShut
import Derived.ChangeSame
import Derived.ChangeVars
import Derived.LaidLaws
import Derived.Stop.JoinedAt
import Derived.Stop.JoinedTold
import Derived.Deep.DeepWitnessRef
import Derived.WideKeyElems2
import Derived.Maps.StringElems
import Derived.SevenTiedAt
namespace Go.Proofs.YbulknbsFmt
open Go.ChangeShapes Go.WideShapes Go.ChangeAt Go.RowKit Go.Kit
open Go.Extern.Stop Go.Stop Go.Extern

theorem own : ownKnob Ybaf.prog.godebug = Option.none := by kernel_rfl
theorem laidOut : laidOutB Ybaf.pinned.checked.prog = true := by kernel_rfl
/-- the variable's name, as the row gives it -/
def gnm : String := Rows.lawS0681BModelSpec.vars.headD ""
theorem gName : Ybaf.prog.globalNamed gnm = some 2 := by kernel_rfl
theorem gType : (Ybaf.prog.globals[2]?).map (·.type) = some 117 := by kernel_rfl

/-- what the variable reads as gives its map -/
theorem map_of {H : Type} {enc : TypeId × Value → H} {w : World} {fuel : Nat} {cs : List Value} {x : DataW H × List MemPlace}
    (h : DataW.trod enc Ybaf.prog w 0 (fun _ => true) true fuel 117 cs = some x) : ∃ r, cs = [.map r] ∧ MapOK w r := by
  rcases WideElems.open_map Ybaf.underlying117 h with ⟨rfl, _⟩ | ⟨b, es, clock, n, _, rfl, hb, _, F, _⟩
  · exact ⟨none, rfl, fun b hb => by cases hb⟩
  · refine ⟨some b, rfl, fun b' hb' => ?_⟩
    cases hb'
    refine ⟨es, clock, hb, fun e he => ?_⟩
    obtain ⟨y, hy⟩ := F.reads e he
    unfold WideElems.rd at hy
    obtain ⟨key, hkey, hval⟩ := Option.bind_eq_some_iff.1 hy
    obtain ⟨z, hz, _⟩ := Option.map_eq_some_iff.1 hval
    obtain ⟨s, hs, _⟩ := WideElems.elemAt_string Ybaf.underlying9 hz
    refine ⟨?_, s, hs⟩
    rw [keyOf_int Ybaf.underlying5] at hkey
    unfold mapKey at hkey
    rw [Ybaf.underlying5] at hkey
    split at hkey
    · simp_all
    · rename_i q q' n' hq _ 
      simp at hq
      subst hq
      split at hkey
      · rename_i hc
        exact ⟨n', by rw [← hc.1]; assumption⟩
      · cases hkey
    · simp_all
    · cases hkey

/-- the world of the witness: the variable holds the map that the row lists, in the last block -/
def laidOver (w : World) : World :=
  { w with heap := w.heap.modify 2 fun
      | .cells _ t frozen => .cells #[.map (some (w.heap.size - 1))] t frozen
      | o => o }
def names : Obj := .map #[{ key := .int .u8 1, val := .string ⟨#[79, 80, 69, 78]⟩, born := 0 }, { key := .int .u8 2, val := .string ⟨#[85, 80, 68, 65, 84, 69]⟩, born := 1 }, { key := .int .u8 3, val := .string ⟨#[78, 79, 84, 73, 70, 73, 67, 65, 84, 73, 79, 78]⟩, born := 2 }] 3

theorem laid_met (os : Os) (args : Array Value) : laidMet Ybaf.prog Rows.lawS0681BModelRow.laid ((laidOver (World.holding Ybaf.prog os ⟨#[names], #[], []⟩)).forCall (fun _ _ => 0) ⟨#[], args, []⟩).memory :=
  laidMet_of_run' 8 (by kernel_rfl) (by kernel_rfl)

/-- the data as it came in, opened -/
theorem data_of {H : Type} {enc : TypeId × Value → H} {W : World} {a0 : Option Addr} {len cap fuel : Nat} {x : DataW H × List MemPlace} (h : DataW.trod enc Ybaf.prog W 0 (fun _ => true) true fuel 22 (Value.slice a0 len cap).cells.toList = some x) :
    ∃ zs : List Int, len ≤ cap ∧ (∀ j : Nat, 0 ≤ zs[j]?.getD 0 ∧ zs[j]?.getD 0 ≤ 255) ∧ (0 < len → ∃ b off, a0 = some ⟨b, off, none⟩ ∧ ∀ i, i < len → W.cell? ⟨b, off + i, none⟩ = some (.int .u8 (List.getD zs i 0))) := by
  rcases open_ints Ybaf.underlying22 Ybaf.underlying5 (by kernel_rfl) h with ⟨hcs, _⟩ | ⟨x, l, c, zs, hcs, _, hl, hm, hz, _, hcell, hwz⟩
  · simp [Value.cells] at hcs
    obtain ⟨rfl, rfl, rfl⟩ := hcs
    exact ⟨[], Nat.le_refl _, fun j => by simp, fun h => by omega⟩
  · simp [Value.cells] at hcs
    obtain ⟨rfl, rfl, rfl⟩ := hcs
    simp only [if_true] at hz
    refine ⟨zs, hl, range_u8 hwz, fun hp => ?_⟩
    obtain ⟨b, off, rfl, hc⟩ := ints_at hcell (by omega)
    exact ⟨b, off, rfl, fun i hi => hc i (by omega)⟩

theorem stopsAre : Ybaf.pinned.checked.prog.stops = Rows.lawS0681BModelRow.stops := by kernel_rfl
theorem knobsAre : Ybaf.pinned.checked.prog.stopKnobs = [] := by kernel_rfl
theorem quietAt (os : Os) : Stop.quiet Ybaf.pinned.checked.prog os := by
  intro k hk
  rw [knobsAre] at hk
  cases hk
end Go.Proofs.YbulknbsFmt
