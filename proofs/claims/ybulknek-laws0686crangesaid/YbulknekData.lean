/-
  The lines as they come in, opened.
-/
import Derived.Test.YbulknekSteps
import Derived.WalkKit
import Derived.OpenShut
import Derived.ChangeOld
import Derived.Deep.Strs
import Derived.DataReads
namespace Go.Proofs.Ybulknek
open Go.ChangeShapes Go.WideShapes Go.ChangeAt Go.RowKit

theorem cells32 : Yba.prog.cellsOf 32 = 3 := by kernel_rfl
theorem cells5 : Yba.prog.cellsOf 5 = 1 := by kernel_rfl
theorem cells21 : Yba.prog.cellsOf 21 = 1 := by kernel_rfl
theorem cells2 : Yba.prog.cellsOf 2 = 1 := by kernel_rfl

/-- a line as it came in, opened -/
theorem line_of {H : Type} {enc : TypeId × Value → H} {W : World} {fuel : Nat} {cs : List Value} {x : DataW H × List MemPlace} (h : DataW.trod enc Yba.prog W 0 (fun _ => true) true fuel 32 cs = some x) :
    ∃ a b c : Int, (0 ≤ a ∧ a ≤ 255) ∧ (-2147483648 ≤ b ∧ b ≤ 2147483647) ∧ cs[0]? = some (.int .u8 a) ∧ cs[1]? = some (.int .i32 b) ∧ cs[2]? = some (.int .i64 c) := by
  obtain ⟨y0, y1, y2, n, _, hl, h0, h1, h2⟩ := Deep.trod_struct3 Yba.underlying32 h
  obtain ⟨a, e0, _, w0⟩ := DataW.trod_int Yba.underlying5 h0
  obtain ⟨b, e1, _, w1⟩ := DataW.trod_int Yba.underlying21 h1
  obtain ⟨c, e2, _, _⟩ := DataW.trod_int Yba.underlying2 h2
  refine ⟨a, b, c, bounds_u8 w0, bounds_i32 w1, ?_, ?_, ?_⟩
  · have := congrArg (·[0]?) e0; simpa [cells5, List.getElem?_take, List.getElem?_drop] using this
  · have := congrArg (·[0]?) e1; simpa [cells21, List.getElem?_take, List.getElem?_drop] using this
  · have := congrArg (·[0]?) e2; simpa [cells2, List.getElem?_take, List.getElem?_drop] using this

theorem lines_of {H : Type} {enc : TypeId × Value → H} {W : World} {a0 : Option Addr} {len cap fuel : Nat} {x : DataW H × List MemPlace} (h : DataW.trod enc Yba.prog W 0 (fun _ => true) true fuel 29 (Value.slice a0 len cap).cells.toList = some x) :
    ∃ fr to s : Nat → Int, (∀ k, 0 ≤ fr k ∧ fr k ≤ 255) ∧ (∀ k, -2147483648 ≤ to k ∧ to k ≤ 2147483647) ∧ (0 < len → ∃ b off, a0 = some ⟨b, off, none⟩ ∧ b < W.heap.size ∧ ∀ k, k < len → W.cell? ⟨b, off + k * 3, none⟩ = some (.int .u8 (fr k)) ∧ W.cell? ⟨b, off + k * 3 + 1, none⟩ = some (.int .i32 (to k)) ∧ W.cell? ⟨b, off + k * 3 + 2, none⟩ = some (.int .i64 (s k))) := by
  rcases DataW.trod_slice Yba.underlying29 h with ⟨hcs, _⟩ | ⟨a, l, c, elems, rest, n, _, hcs, _, hb, hl, hm, hlen, hel, _, _⟩
  · simp [Value.cells] at hcs
    obtain ⟨rfl, rfl, rfl⟩ := hcs
    exact ⟨fun _ => 0, fun _ => 0, fun _ => 0, fun _ => by simp, fun _ => by simp, fun h => by omega⟩
  · simp [Value.cells] at hcs
    obtain ⟨rfl, rfl, rfl⟩ := hcs
    rw [cells32] at hel
    by_cases hp : 0 < len
    · have each : ∀ k, k < len → ∃ cs : List Value, (∀ i, i < 3 → W.cell? ((a.add (k * 3)).add i) = cs[i]?) ∧ ∃ a b c : Int, (0 ≤ a ∧ a ≤ 255) ∧ (-2147483648 ≤ b ∧ b ≤ 2147483647) ∧ cs[0]? = some (.int .u8 a) ∧ cs[1]? = some (.int .i32 b) ∧ cs[2]? = some (Value.int .i64 c) := fun k hk => by
        have h1 := hel k hk
        rw [List.getElem?_eq_getElem (by omega)] at h1
        obtain ⟨cs, hc, ht⟩ := Option.bind_eq_some_iff.1 h1
        exact ⟨cs, (World.cells?_some hc).2.2, line_of ht⟩
      obtain ⟨b, off, spot⟩ := a
      have hspot : spot = none := by
        obtain ⟨cs, hc, a, _, _, _, _, h0, _⟩ := each 0 hp
        have := (hc 0 (by omega)).trans h0
        simpa [Addr.add] using World.cell?_spot this
      subst hspot
      have each' : ∀ k, ∃ t : Int × Int × Int, (0 ≤ t.1 ∧ t.1 ≤ 255) ∧ (-2147483648 ≤ t.2.1 ∧ t.2.1 ≤ 2147483647) ∧ (k < len → W.cell? ⟨b, off + k * 3, none⟩ = some (.int .u8 t.1) ∧ W.cell? ⟨b, off + k * 3 + 1, none⟩ = some (.int .i32 t.2.1) ∧ W.cell? ⟨b, off + k * 3 + 2, none⟩ = some (.int .i64 t.2.2)) := fun k => by
        by_cases hk : k < len
        · obtain ⟨cs, hc, x, y, z, bx, byy, h0, h1, h2⟩ := each k hk
          simp only [add_plain] at hc
          exact ⟨(x, y, z), bx, byy, fun _ => ⟨(hc 0 (by omega)).trans h0, (hc 1 (by omega)).trans h1, (hc 2 (by omega)).trans h2⟩⟩
        · exact ⟨(0, 0, 0), by simp, by simp, fun h => absurd h hk⟩
      obtain ⟨t, ht⟩ := Classical.axiomOfChoice each'
      exact ⟨fun k => (t k).1, fun k => (t k).2.1, fun k => (t k).2.2, fun k => (ht k).1, fun k => (ht k).2.1, fun _ => ⟨b, off, rfl, World.block_lt_of_cell? _ _ ((ht 0).2.2 hp).1, fun k hk => (ht k).2.2 hk⟩⟩
    · exact ⟨fun _ => 0, fun _ => 0, fun _ => 0, fun _ => by simp, fun _ => by simp, fun h => absurd h hp⟩
end Go.Proofs.Ybulknek
