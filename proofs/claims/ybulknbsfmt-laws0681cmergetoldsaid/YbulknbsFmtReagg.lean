/-
  reaggregated.
-/
import Derived.Test.YbulknbsFmtPut
import Derived.Test.YbulknbsFmtModel
namespace Go.Proofs.YbulknbsFmt
open Go.RowKit

set_option maxRecDepth 100000 in
set_option maxHeartbeats 400000 in
theorem uint16_long (g o n c : Nat) (x y : Int) (w : World) (hn : 2 ≤ n) (hn2 : n ≤ 100) (c0 : w.cell? ⟨g, o, none⟩ = some (.int .u8 x)) (c1 : w.cell? ⟨g, o + 1, none⟩ = some (.int .u8 y)) (hx : 0 ≤ x ∧ x ≤ 255) (hy : 0 ≤ y ∧ y ≤ 255) :
    Calls Ybaf.prog 37 #[.agg #[], .slice (some ⟨g, o, none⟩) n c] w fun e w' => e = .returned (.int .u16 (y + x * 256)) ∧ Below w.heap.size w w' := by
  have hg : g < w.heap.size := World.block_lt_of_cell? _ _ c0
  have h0 : 0 < n := by omega
  have h1 : 1 < n := by omega
  go_enter Ybaf.func37, Ybaf.ntmps37
  go_wp2
  go_quiet (fail)
  go_wp2
  go_ret
  refine ⟨?_, ((Below.refl _ w).alloc (Nat.le_refl _) _).trans ⟨rfl, rfl, rfl, Nat.le_refl _, fun _ _ => rfl⟩⟩
  simp (disch := omega) only [u16_or8]
  rfl

/-- 'reaggregated', the plain rule -/
def reagg (ag ag4 : List Int) : Bool := ag.length == 6 && ag4.length == 8 && !(ag.getD 1 0 + ag.getD 0 0 * 256 == 23456)

set_option maxRecDepth 100000 in
set_option maxHeartbeats 1000000 in
theorem reagg_any (P : Nat) (v2 v3 : Value) (ag ag4 : List Int) (w : World) (p2 : w.cell? ⟨P, 2, none⟩ = some v2) (p3 : w.cell? ⟨P, 3, none⟩ = some v3) (h2 : NumsAt .u8 w v2 ag) (h3 : NumsAt .u8 w v3 ag4) (hag : ∀ i, 0 ≤ ag.getD i 0 ∧ ag.getD i 0 ≤ 255) :
    Calls Ybaf.prog 30 #[.pointer (some ⟨P, 0, none⟩)] w fun e w' => e = .returned (.bool (reagg ag ag4)) ∧ Below w.heap.size w w' := by
  obtain ⟨a2, c2, rfl, hc2, _, hh2⟩ := h2
  obtain ⟨a3, c3, rfl, hc3, _, hh3⟩ := h3
  obtain ⟨n2, hn2⟩ : ∃ n, ag.length = n := ⟨_, rfl⟩
  obtain ⟨n3, hn3⟩ : ∃ n, ag4.length = n := ⟨_, rfl⟩
  unfold reagg
  rw [hn2, hn3] 
  rw [hn2] at p2 hh2
  rw [hn3] at p3
  clear hh3 hc2 hc3 hn2 hn3
  by_cases h6 : n2 = 6
  · subst h6
    by_cases h8 : n3 = 8
    · subst h8
      obtain ⟨b, off, rfl, hc⟩ := hh2 (by omega)
      have x0 := hc 0 (by omega)
      have x1 := hc 1 (by omega)
      have y0 := hag 0
      have y1 := hag 1
      rw [Nat.add_zero] at x0
      clear hc hag hh2
      obtain ⟨x, hx⟩ : ∃ x, ag.getD 0 0 = x := ⟨_, rfl⟩
      obtain ⟨y, hy⟩ : ∃ y, ag.getD 1 0 = y := ⟨_, rfl⟩
      rw [hx] at x0 y0 ⊢
      rw [hy] at x1 y1 ⊢
      clear hx hy
      go_enter Ybaf.func30, Ybaf.ntmps30
      go_wp2_with fail
      go_region_with (go_at_call 37; refine (uint16_long b off 6 c2 x y w.drew (by omega) (by omega) x0 x1 y0 y1).mono ?_; rintro e w2 ⟨rfl, B2⟩)
      all_goals
        have B3 : Below w.heap.size w w2 := (Below.refl _ _).drew.trans (B2.mono (Nat.le_refl _))
        go_wp2
        go_ret
        exact ⟨by simp [bne]; rfl, B3⟩
    · have q : ((n3 : Int) == 8) = false := by simp; omega
      have q' : (n3 == 8) = false := by simp [h8]
      rw [q']
      clear hh2 hag h8
      go_enter Ybaf.func30, Ybaf.ntmps30
      go_wp2_with fail
      go_quiet (fail)
      go_wp2
      go_ret
      exact ⟨rfl, ⟨rfl, rfl, rfl, Nat.le_refl _, fun _ _ => rfl⟩⟩
  · have q : ((n2 : Int) == 6) = false := by simp; omega
    have q' : (n2 == 6) = false := by simp [h6]
    rw [q']
    clear hh2 hag h6
    go_enter Ybaf.func30, Ybaf.ntmps30
    go_wp2_with fail
    go_quiet (fail)
    go_wp2
    go_ret
    exact ⟨rfl, ⟨rfl, rfl, rfl, Nat.le_refl _, fun _ _ => rfl⟩⟩
end Go.Proofs.YbulknbsFmt
