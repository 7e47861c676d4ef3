/-
  THE WALKS of 'LawS0679CExact' (function 3), three ways: the index does not come after prev; it names no entry; it is sound. fmt.Sprintf's text is whatever the stop answers: the law does not look at it.
-/
import Derived.Test.YbulknaqFmtRows
import Derived.Stop.CallBack
import Derived.Stop.IfaceNil
import Derived.Stop.Texts
import Derived.WalkKit
import Derived.WalkSpells
import Derived.WalkLawsBesides
namespace Go.Proofs.YbulknaqFmt
open Go.RowKit Go.Extern.Stop Go.Stop Go.Extern

theorem call7 (args : Array Value) (w : World) : (callFunc 7 args).run Ybaf.prog w = ((FmtStop.sprintf #[9, 114] #[9] args).run Ybaf.prog w).andThen fun v w' => .ok (.value v) w' :=
  run_callFunc_extern Ybaf.func7 (by kernel_rfl) (by kernel_rfl) (by kernel_rfl) (by kernel_rfl) args w
theorem guardOk (name : String) (w : World) : (FmtStop.guard name).run Ybaf.prog w = .ok () w := by kernel_rfl
theorem fmt0 : FmtStop.printed? ⟨#[117, 110, 107, 110, 111, 119, 110, 32, 37, 115, 32, 37, 100]⟩ 2 = some [(0, 115, false), (1, 100, false)] := by kernel_rfl
theorem fmt0r (w : World) : (FmtDoors.printed ⟨#[117, 110, 107, 110, 111, 119, 110, 32, 37, 115, 32, 37, 100]⟩ 2).run Ybaf.prog w = .ok [(0, 115, false), (1, 100, false)] w := by kernel_rfl
def shape9 : List UInt8 := [12, 6, 0, 0, 0, 0, 0, 0, 0, 115, 116, 114, 105, 110, 103]
theorem op9 (name : String) (x : ByteArray) (w : World) : (FmtStop.operand name false 115 false (.iface 9 (.string x))).run Ybaf.prog w = .ok (shape9, FmtStop.pack x.data.toList) w := by kernel_rfl
def shape22 : List UInt8 := [8, 6, 0, 0, 0, 0, 0, 0, 0, 117, 105, 110, 116, 51, 50]
theorem op22 (name : String) (x : Int) (w : World) : (FmtStop.operand name false 100 false (.iface 22 (.int .u32 x))).run Ybaf.prog w = .ok (shape22, Go.Extern.Stop.digits 8 (x % 2 ^ 64).toNat) w := by kernel_rfl

theorem assert37 (a : Addr) (w : World) : (Instr.typeAssert (.iface 37 (.pointer (some a))) 35 37 true).run Ybaf.prog w = .ok (.tuple #[.pointer (some a), .bool true]) w := by kernel_rfl

attribute [local go_sem] call7 guardOk fmt0 fmt0r op9 op22 assert37

set_option maxRecDepth 100000 in
set_option maxHeartbeats 400000 in
theorem exact_order (off n prev lim : Int) (s : Nat) (w : World) (hn : 0 ≤ n ∧ n ≤ 4294967295) (_hs : s ≤ 255) (h1 : n ≤ prev) :
    Calls Ybaf.prog 3 #[.int .i64 off, .int .u32 n, .int .i64 prev, .int .u64 lim, .int .u8 s] w fun e w' => e = .returned (.bool true) ∧ Below w.heap.size w w' := by
  obtain ⟨hn0, hn1⟩ := hn
  go_enter Ybaf.func3, Ybaf.ntmps3
  go_wp2
  go_ret
  exact ⟨rfl, ((Below.refl _ _).alloc (Nat.le_refl _) _).alloc (by simp) _⟩

set_option maxRecDepth 100000 in
set_option maxHeartbeats 400000 in
theorem exact_nil (off n prev lim : Int) (s : Nat) (w : World) (hn : 0 ≤ n ∧ n ≤ 4294967295) (_hs : s ≤ 255) (h1 : ¬ n ≤ prev) (h2 : n < lim) :
    Calls Ybaf.prog 3 #[.int .i64 off, .int .u32 n, .int .i64 prev, .int .u64 lim, .int .u8 s] w fun e w' => e = .returned (.bool true) ∧ Below w.heap.size w w' := by
  obtain ⟨hn0, hn1⟩ := hn
  have d1 : decide (n ≤ prev) = false := by simpa using h1
  have d2 : decide (lim ≤ n) = false := by simpa using h2
  go_enter Ybaf.func3, Ybaf.ntmps3
  go_wp2
  go_ret
  exact ⟨rfl, (Below.refl _ _).alloc (Nat.le_refl _) _⟩

set_option maxRecDepth 100000 in
set_option maxHeartbeats 400000 in
theorem exact_unknown (off n prev lim : Int) (s : Nat) (w : World) (hc : ∀ i, i < 9 → ∃ t, w.cell? ⟨0, i, none⟩ = some (.string t)) (hn : 0 ≤ n ∧ n ≤ 4294967295) (_hs : s ≤ 255) (h1 : ¬ n ≤ prev) (h2 : ¬ n < lim) :
    Calls Ybaf.prog 3 #[.int .i64 off, .int .u32 n, .int .i64 prev, .int .u64 lim, .int .u8 s] w fun e w' => e = .returned (.bool true) ∧ Below w.heap.size w w' := by
  obtain ⟨hn0, hn1⟩ := hn
  obtain ⟨t, ht⟩ := hc (s % 9) (by omega)
  have h0 : 0 < w.heap.size := World.block_lt_of_cell? _ _ ht
  clear hc
  have d1 : decide (n ≤ prev) = false := by simpa using h1
  have d2 : decide (lim ≤ n) = true := by simpa using h2
  go_enter Ybaf.func3, Ybaf.ntmps3
  go_wp2
  go_ret
  exact ⟨rfl, ((((Below.refl _ _).alloc (Nat.le_refl _) _).alloc (by simp) _).alloc (by simp; omega) _).drew⟩
end Go.Proofs.YbulknaqFmt
