/-
  A *Error of kind Malformed in memory; zzs0679amal; within.
-/
import Derived.Test.YbulknaqDoorBase
namespace Go.Proofs.YbulknaqDoor
open Go.RowKit

/-- a *Error of kind Malformed lies in block g -/
structure Mal (w : World) (g : Nat) (o : Int) (s : ByteArray) : Prop where
  c0 : w.cell? ⟨g, 0, none⟩ = some (.int .i64 o)
  c1 : w.cell? ⟨g, 1, none⟩ = some (.int .u8 1)
  c2 : w.cell? ⟨g, 2, none⟩ = some (.string s)

theorem Mal.new (w : World) (o : Int) (s : ByteArray) : Mal (w.alloc (.cells #[.int .i64 o, .int .u8 1, .string s] 54)) w.heap.size o s :=
  ⟨by simp, by simp, by simp⟩
theorem Mal.later {w w' : World} {g : Nat} {o : Int} {s : ByteArray} (h : Mal w g o s) (b : Below w.heap.size w w') : Mal w' g o s :=
  ⟨cell_later b h.c0, cell_later b h.c1, cell_later b h.c2⟩

theorem assert49 (a : Addr) (w : World) : (Instr.typeAssert (.iface 49 (.pointer (some a))) 28 49 true).run Ybad.prog w = .ok (.tuple #[.pointer (some a), .bool true]) w := by kernel_rfl

set_option maxRecDepth 100000 in
set_option maxHeartbeats 400000 in
theorem mal_any (w : World) (g : Nat) (o : Int) (s : ByteArray) (h : Mal w g o s) :
    Calls Ybad.prog 9 #[.iface 49 (.pointer (some ⟨g, 0, none⟩)), .int .i64 o, .string s] w fun e w' => e = .returned (.bool true) ∧ w' = w := by
  obtain ⟨c0, c1, c2⟩ := h
  have ha := assert49
  go_enter Ybad.func9, Ybad.ntmps9
  go_wp2
  go_ret
  exact ⟨rfl, rfl⟩

/-- 'unexpected end of section or function' -/
def secEnd : ByteArray := ⟨#[117, 110, 101, 120, 112, 101, 99, 116, 101, 100, 32, 101, 110, 100, 32, 111, 102, 32, 115, 101, 99, 116, 105, 111, 110, 32, 111, 114, 32, 102, 117, 110, 99, 116, 105, 111, 110]⟩

set_option maxRecDepth 100000 in
set_option maxHeartbeats 400000 in
theorem within_ok (w : World) (N : Nat) (off en : Int) (h : w.cell? ⟨N, 5, none⟩ = some (.int .i64 off)) (hle : off ≤ en) :
    Calls Ybad.prog 8 #[.agg #[.pointer (some ⟨N, 0, none⟩), .int .i64 en]] w fun e w' => e = .returned .nilIface ∧ Below w.heap.size w w' := by
  have hN : N < w.heap.size := World.block_lt_of_cell? _ _ h
  have d1 : decide (en < off) = false := by simpa using hle
  go_enter Ybad.func8, Ybad.ntmps8
  go_wp2
  go_region
  go_wp2
  go_ret
  exact ⟨rfl, ((Below.refl _ _).alloc (Nat.le_refl _) _).drew⟩

set_option maxRecDepth 100000 in
set_option maxHeartbeats 400000 in
theorem within_past (w : World) (N : Nat) (off en : Int) (h : w.cell? ⟨N, 5, none⟩ = some (.int .i64 off)) (hlt : en < off) :
    Calls Ybad.prog 8 #[.agg #[.pointer (some ⟨N, 0, none⟩), .int .i64 en]] w fun e w' => ∃ g, e = .returned (.iface 49 (.pointer (some ⟨g, 0, none⟩))) ∧ Mal w' g en secEnd ∧ Below w.heap.size w w' := by
  have hN : N < w.heap.size := World.block_lt_of_cell? _ _ h
  have d1 : decide (en < off) = true := by simpa using hlt
  go_enter Ybad.func8, Ybad.ntmps8
  go_wp2
  go_region
  go_wp2
  go_ret
  refine ⟨_, rfl, ⟨?_, ?_, ?_⟩, (((Below.refl _ _).alloc (Nat.le_refl _) _).alloc (by simp) _).drew⟩
  all_goals (rw [World.cell?_drew, World.cell?_alloc_at _ _ _ _ (by simp)]; rfl)
end Go.Proofs.YbulknaqDoor
