/-
  fmt.Errorf at the four formats of splitBGP: an error that is not nil comes back, whatever its text.
-/
import Derived.Test.YbulknbsFmtRows
import Derived.Stop.CallBack
import Derived.Stop.IfaceNil
import Derived.Stop.Texts
import Derived.WalkKit
import Derived.WalkSpells
import Derived.WalkLawsBesides
namespace Go.Proofs.YbulknbsFmt
open Go.RowKit Go.Extern.Stop Go.Stop Go.Extern

theorem call35 (args : Array Value) (w : World) : (callFunc 35 args).run Ybaf.prog w = (FmtCalls.errorf #[9, 103] #[50] args).run Ybaf.prog w :=
  run_callFunc_next Ybaf.func35 (by kernel_rfl) (by kernel_rfl) (by kernel_rfl) args w
theorem guardOk (name : String) (w : World) : (FmtStop.guard name).run Ybaf.prog w = .ok () w := by kernel_rfl
theorem nextTurns : Extern.next FmtCalls.turnsRow = some (FmtCalls.begun #[] #[]) := by kernel_rfl

def f1 : ByteArray := ⟨#[66, 71, 80, 32, 37, 115, 58, 32, 104, 101, 97, 100, 101, 114, 32, 99, 117, 116, 32, 115, 104, 111, 114, 116, 32, 97, 116, 32, 37, 100, 32, 111, 102, 32, 105, 116, 115, 32, 37, 100, 32, 98, 121, 116, 101, 115]⟩
def f2 : ByteArray := ⟨#[66, 71, 80, 32, 37, 115, 58, 32, 109, 97, 114, 107, 101, 114, 32, 105, 115, 32, 110, 111, 116, 32, 97, 108, 108, 32, 111, 110, 101, 115]⟩
def f3 : ByteArray := ⟨#[66, 71, 80, 32, 37, 115, 58, 32, 108, 101, 110, 103, 116, 104, 32, 37, 100, 44, 32, 119, 105, 116, 104, 32, 37, 100, 32, 98, 121, 116, 101, 115, 32, 108, 101, 102, 116, 32, 102, 111, 114, 32, 105, 116]⟩
def f4 : ByteArray := ⟨#[66, 71, 80, 32, 109, 101, 115, 115, 97, 103, 101, 32, 111, 102, 32, 116, 121, 112, 101, 32, 37, 100, 32, 119, 104, 101, 114, 101, 32, 97, 32, 66, 71, 80, 32, 37, 115, 32, 98, 101, 108, 111, 110, 103, 115]⟩
theorem fmt1r (w : World) : (FmtDoors.printed f1 3).run Ybaf.prog w = .ok [(0, 115, false), (1, 100, false), (2, 100, false)] w := by kernel_rfl
theorem fmt2r (w : World) : (FmtDoors.printed f2 1).run Ybaf.prog w = .ok [(0, 115, false)] w := by kernel_rfl
theorem fmt3r (w : World) : (FmtDoors.printed f3 3).run Ybaf.prog w = .ok [(0, 115, false), (1, 100, false), (2, 100, false)] w := by kernel_rfl
theorem fmt4r (w : World) : (FmtDoors.printed f4 2).run Ybaf.prog w = .ok [(0, 100, false), (1, 115, false)] w := by kernel_rfl
def shape9 : List UInt8 := [12, 6, 0, 0, 0, 0, 0, 0, 0, 115, 116, 114, 105, 110, 103]
def shape3 : List UInt8 := [5, 3, 0, 0, 0, 0, 0, 0, 0, 105, 110, 116]
def shape5 : List UInt8 := [6, 5, 0, 0, 0, 0, 0, 0, 0, 117, 105, 110, 116, 56]
theorem act9 (name : String) (x : Value) (w : World) : (FmtCalls.act name true 115 false (.iface 9 x)).run Ybaf.prog w = .ok (.closed true) w := by kernel_rfl
theorem act3 (name : String) (x : Value) (w : World) : (FmtCalls.act name true 100 false (.iface 3 x)).run Ybaf.prog w = .ok (.closed true) w := by kernel_rfl
theorem act5 (name : String) (x : Value) (w : World) : (FmtCalls.act name true 100 false (.iface 5 x)).run Ybaf.prog w = .ok (.closed true) w := by kernel_rfl
theorem op9 (name : String) (x : ByteArray) (w : World) : (FmtStop.operand name true 115 false (.iface 9 (.string x))).run Ybaf.prog w = .ok (shape9, FmtStop.pack x.data.toList) w := by kernel_rfl
theorem op3 (name : String) (x : Int) (w : World) : (FmtStop.operand name true 100 false (.iface 3 (.int .i64 x))).run Ybaf.prog w = .ok (shape3, Go.Extern.Stop.digits 8 (x % 2 ^ 64).toNat) w := by kernel_rfl
theorem op5 (name : String) (x : Int) (w : World) : (FmtStop.operand name true 100 false (.iface 5 (.int .u8 x))).run Ybaf.prog w = .ok (shape5, Go.Extern.Stop.digits 8 (x % 2 ^ 64).toNat) w := by kernel_rfl
theorem ptrE (w : World) : (FmtStop.ptrTo "errors.errorString").run Ybaf.prog w = .ok 119 w := by kernel_rfl
theorem elemE (w : World) : (elemOf 119).run Ybaf.prog w = .ok 121 w := by kernel_rfl
theorem isE (w : World) : (FmtDoors.textMethod 119 "Error").run Ybaf.prog w = .ok true w := by kernel_rfl

attribute [local go_sem] call35 guardOk fmt1r fmt2r fmt3r fmt4r act9 act3 act5 op9 op3 op5 ptrE elemE isE

set_option maxRecDepth 100000 in
set_option maxHeartbeats 400000 in
theorem errorf1 (s : ByteArray) (x : Int) (y : Int) (blk : Nat) (w : World) (c0 : w.cell? ⟨blk, 0, none⟩ = some (.iface 9 (.string s))) (c1 : w.cell? ⟨blk, 1, none⟩ = some (.iface 3 (.int .i64 x))) (c2 : w.cell? ⟨blk, 2, none⟩ = some (.iface 3 (.int .i64 y))) :
    Calls Ybaf.prog 21 #[.string f1, .slice (some ⟨blk, 0, none⟩) 3 3] w fun e w' => (∃ g, e = .returned (.iface 119 (.pointer (some g)))) ∧ Below w.heap.size w w' := by
  go_enter Ybaf.func21, Ybaf.ntmps21
  go_wp2
  apply rows_value nextTurns
  case hr =>
    go_simp
    exact ⟨rfl, rfl⟩
  case h =>
    go_wp2
    go_ret
    exact ⟨⟨_, rfl⟩, ((Below.refl _ _).alloc (Nat.le_refl _) _).drew⟩

set_option maxRecDepth 100000 in
set_option maxHeartbeats 400000 in
theorem errorf2 (s : ByteArray) (blk : Nat) (w : World) (c0 : w.cell? ⟨blk, 0, none⟩ = some (.iface 9 (.string s))) :
    Calls Ybaf.prog 21 #[.string f2, .slice (some ⟨blk, 0, none⟩) 1 1] w fun e w' => (∃ g, e = .returned (.iface 119 (.pointer (some g)))) ∧ Below w.heap.size w w' := by
  go_enter Ybaf.func21, Ybaf.ntmps21
  go_wp2
  apply rows_value nextTurns
  case hr =>
    go_simp
    exact ⟨rfl, rfl⟩
  case h =>
    go_wp2
    go_ret
    exact ⟨⟨_, rfl⟩, ((Below.refl _ _).alloc (Nat.le_refl _) _).drew⟩

set_option maxRecDepth 100000 in
set_option maxHeartbeats 400000 in
theorem errorf3 (s : ByteArray) (x : Int) (y : Int) (blk : Nat) (w : World) (c0 : w.cell? ⟨blk, 0, none⟩ = some (.iface 9 (.string s))) (c1 : w.cell? ⟨blk, 1, none⟩ = some (.iface 3 (.int .i64 x))) (c2 : w.cell? ⟨blk, 2, none⟩ = some (.iface 3 (.int .i64 y))) :
    Calls Ybaf.prog 21 #[.string f3, .slice (some ⟨blk, 0, none⟩) 3 3] w fun e w' => (∃ g, e = .returned (.iface 119 (.pointer (some g)))) ∧ Below w.heap.size w w' := by
  go_enter Ybaf.func21, Ybaf.ntmps21
  go_wp2
  apply rows_value nextTurns
  case hr =>
    go_simp
    exact ⟨rfl, rfl⟩
  case h =>
    go_wp2
    go_ret
    exact ⟨⟨_, rfl⟩, ((Below.refl _ _).alloc (Nat.le_refl _) _).drew⟩

set_option maxRecDepth 100000 in
set_option maxHeartbeats 400000 in
theorem errorf4 (x : Int) (s : ByteArray) (blk : Nat) (w : World) (c0 : w.cell? ⟨blk, 0, none⟩ = some (.iface 5 (.int .u8 x))) (c1 : w.cell? ⟨blk, 1, none⟩ = some (.iface 9 (.string s))) :
    Calls Ybaf.prog 21 #[.string f4, .slice (some ⟨blk, 0, none⟩) 2 2] w fun e w' => (∃ g, e = .returned (.iface 119 (.pointer (some g)))) ∧ Below w.heap.size w w' := by
  go_enter Ybaf.func21, Ybaf.ntmps21
  go_wp2
  apply rows_value nextTurns
  case hr =>
    go_simp
    exact ⟨rfl, rfl⟩
  case h =>
    go_wp2
    go_ret
    exact ⟨⟨_, rfl⟩, ((Below.refl _ _).alloc (Nat.le_refl _) _).drew⟩

end Go.Proofs.YbulknbsFmt
