/-
  errors.Is at a sentinel against itself; what an input holds; its method buffered.
-/
import Derived.Test.YbulknaqDoorRows
import Derived.WalkKit
import Derived.WalkSpells
import Derived.WalkLawsBesides
import Derived.LaidEql
import Derived.Stop.Asserts
import Derived.RowKitTokens
namespace Go.Proofs.YbulknaqDoor
open Go.RowKit

theorem call19 (v : Value) (w : World) : (callFunc 19 #[.iface 78 v]).run Ybad.prog w = .ok (.value (.iface 69 (.agg #[.pointer (some ⟨3, 78, Option.none⟩)]))) w := by kernel_rfl
theorem call46 (w : World) : (callFunc 46 #[.agg #[.pointer (some ⟨3, 78, Option.none⟩)]]).run Ybad.prog w = .ok (.value (.bool true)) w := by kernel_rfl
theorem isComp : (Ybad.prog.info? 78).map (·.comparable) = some true := by kernel_rfl
theorem isSize : (Ybad.prog.info? 106).map (·.size) = some 1 := by kernel_rfl
theorem isMethodComparable (v : Value) (w : World) : (Go.method 222 69 v "Comparable").run Ybad.prog w = .ok (46, v) w := by kernel_rfl

set_option maxRecDepth 100000 in
/-- errors.Is(x, x), x a pointer to an errors.errorString. -/
theorem is_same (a : Addr) (w : World) :
    Calls Ybad.prog 17 #[.iface 78 (.pointer (some a)), .iface 78 (.pointer (some a))] w fun e w' => e = .returned (.bool true) ∧ w' = w := by
  obtain ⟨i, hi, hcmp⟩ := Option.map_eq_some_iff.1 isComp
  obtain ⟨j, hj, hjs⟩ := Option.map_eq_some_iff.1 isSize
  have h8 := call19
  have h32 := call46
  have mR := isMethodComparable
  have heq := run_eql_iface_ptr_same (P := Ybad.prog) w a Ybad.underlying28 Ybad.underlying78 hi hcmp hj
  go_enter Ybad.func17, Ybad.ntmps17
  go_wp2
  refine wp_loop_rounds 1 ?_
  rw [rounds_succ]
  go_wp2
  go_ret
  exact ⟨rfl, rfl⟩

/-- what an input in block N holds, as far as its buffer goes: 'blen' bytes from place 'start' of the data on, the next one to be taken at 'off' -/
structure Inp (w : World) (N Bf blen bcap start off : Nat) (err : Value) : Prop where
  err : w.cell? ⟨N, 1, none⟩ = some err
  buf : w.cell? ⟨N, 2, none⟩ = some (.slice (some ⟨Bf, 0, none⟩) blen bcap)
  full : w.cell? ⟨N, 3, none⟩ = some (.bool false)
  startc : w.cell? ⟨N, 4, none⟩ = some (.int .i64 start)
  offc : w.cell? ⟨N, 5, none⟩ = some (.int .i64 off)
  h1 : start ≤ off
  h2 : off ≤ start + blen
  h3 : blen ≤ bcap
  h4 : start + bcap ≤ 4096

set_option maxRecDepth 100000 in
set_option maxHeartbeats 400000 in
theorem buffered_any (w : World) (N Bf blen bcap start off : Nat) (err : Value) (h : Inp w N Bf blen bcap start off err) (r : Nat) (hr : Hid (off + r = start + blen)) :
    Calls Ybad.prog 15 #[.pointer (some ⟨N, 0, none⟩)] w fun e w' => (∃ ad, e = .returned (.slice (some ad) r r)) ∧ w.drew = w' := by
  obtain ⟨c1, c2, c3, c4, c5, h1, h2, h3, h4⟩ := h
  go_enter Ybad.func15, Ybad.ntmps15
  go_wp2
  go_region
  go_wp2
  · go_ret
    obtain rfl : r = 0 := by have := hr.out; omega
    exact ⟨⟨_, rfl⟩, rfl⟩
  · go_ret
    have e : blen - (off - start) = r := by have := hr.out; omega
    rw [e]
    exact ⟨⟨_, rfl⟩, rfl⟩
end Go.Proofs.YbulknaqDoor
