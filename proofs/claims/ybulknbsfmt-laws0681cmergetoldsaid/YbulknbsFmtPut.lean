/-
  AppendUint32 onto bytes of the call's own.
-/
import Derived.Test.YbulknbsFmtPath
namespace Go.Proofs.YbulknbsFmt
open Go.RowKit

/-- a number's four bytes -/
def be4 (a : Int) : List Int := [a / 16777216, a / 65536 % 256, a / 256 % 256, a % 256]

theorem cells_at (w : World) (cs : Array Value) (t : TypeId) (B : Nat) (hB : B = w.heap.size) : ∀ j u, cs.toList[j]? = some u → (w.alloc (.cells cs t)).cell? ((⟨B, 0, none⟩ : Addr).add j) = some u := by
  subst hB
  exact cells_fresh w cs t

set_option maxRecDepth 100000 in
set_option maxHeartbeats 400000 in
theorem append32 (base : Nat) (v : Value) (bs : List Int) (a : Int) (w : World) (ha : 0 ≤ a ∧ a ≤ 4294967295) (hb : base ≤ w.heap.size) (hn : bs.length ≤ 1000000) (h : w.ownsRow base 5 1 v bs.length (bs.map (Value.int .u8))) :
    Calls Ybaf.prog 14 #[.agg #[], v, .int .u32 a] w fun e w' => ∃ g cap, e = .returned (.slice (some ⟨g, 0, none⟩) (bs.length + 4) cap) ∧ w'.ownsRow base 5 1 (.slice (some ⟨g, 0, none⟩) (bs.length + 4) cap) (bs.length + 4) ((bs ++ be4 a).map (Value.int .u8)) ∧ w.grownBy w' v.ownBlock ∧ (v.ownBlock = some g ∨ w.heap.size ≤ g) := by
  obtain ⟨i0, hi, hz0, hz1, hz2⟩ := info_parts info5q
  have H : Hid (w.ownsRow base 5 1 v bs.length (bs.map (Value.int .u8))) := h
  obtain ⟨n, hnn⟩ : ∃ n, bs.length = n := ⟨_, rfl⟩
  rw [hnn] at H hn ⊢
  have HN : Hid (bs.length = n) := hnn
  clear h hnn
  go_enter Ybaf.func14, Ybaf.ntmps14
  go_wp2_with (at_builtin; refine wpList_append_lies _ rfl (.tmp 7) (.tmp 19) 22 rfl base 5 i0 (.int .u8 0) 1 1 Ybaf.underlying22 hi hz0 hz1 hz2 rfl (by decide) v n (bs.map (Value.int .u8)) rfl ((H.out.alloc _).alloc _) ⟨w.heap.size + 1, 0, none⟩ 4 4 _ rfl rfl (cells_at _ _ _ _ (by simp)) (by intro u hu; simp at hu; rcases hu with rfl | rfl | rfl | rfl <;> rfl) (by omega) (by unfold maxLen; omega) (by omega) (by simp; omega) _ rfl ?_; intro g cap w1 hown hgrow hat hlt)
  go_ret
  refine ⟨g, cap, rfl, by simpa [be4] using hown, ((World.grownBy_alloc w _ _).trans (World.grownBy_alloc _ _ _)).trans hgrow, ?_⟩
  rcases hat with h | h
  · exact Or.inl h
  · exact Or.inr (by rw [h]; simp; omega)
end Go.Proofs.YbulknbsFmt
