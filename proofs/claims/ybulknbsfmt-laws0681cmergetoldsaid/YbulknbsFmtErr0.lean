/-
  fmt.Errorf without operands, errors.New.
-/
import Derived.Test.YbulknbsFmtErrorf
namespace Go.Proofs.YbulknbsFmt
open Go.RowKit Go.Extern.Stop Go.Stop Go.Extern

def f0 : ByteArray := ⟨#[65, 83, 95, 80, 65, 84, 72, 32, 115, 101, 103, 109, 101, 110, 116, 32, 104, 101, 97, 100, 101, 114, 32, 114, 117, 110, 115, 32, 112, 97, 115, 116, 32, 116, 104, 101, 32, 97, 116, 116, 114, 105, 98, 117, 116, 101]⟩
theorem fmt0r (w : World) : (FmtDoors.printed f0 0).run Ybaf.prog w = .ok [] w := by kernel_rfl
theorem build121 (s : ByteArray) (w : World) : (Instr.build 121 #[(0, .string s)]).run Ybaf.prog w = .ok (.agg #[.string s]) w := by kernel_rfl

set_option maxRecDepth 100000 in
set_option maxHeartbeats 400000 in
theorem new_any (s : ByteArray) (w : World) : Calls Ybaf.prog 36 #[.string s] w fun e w' => (∃ g, e = .returned (.iface 119 (.pointer (some g)))) ∧ Below w.heap.size w w' := by
  have b := build121
  go_enter Ybaf.func36, Ybaf.ntmps36
  go_wp2
  go_ret
  exact ⟨⟨_, rfl⟩, (Below.refl _ _).alloc (Nat.le_refl _) _⟩

attribute [local go_sem] call35 guardOk fmt0r ptrE elemE isE

set_option maxRecDepth 100000 in
set_option maxHeartbeats 400000 in
theorem errorf0 (w : World) :
    Calls Ybaf.prog 21 #[.string f0, .slice none 0 0] w fun e w' => (∃ g, e = .returned (.iface 119 (.pointer (some g)))) ∧ Below w.heap.size w w' := by
  have h37 : ¬ (37 ∈ f0.data) := by decide +kernel
  go_enter Ybaf.func21, Ybaf.ntmps21
  go_wp2_with (go_at_call 36; refine (new_any f0 _).mono ?_; rintro e w2 ⟨⟨g, rfl⟩, B⟩)
  go_ret
  exact ⟨⟨g, rfl⟩, B⟩
end Go.Proofs.YbulknbsFmt
