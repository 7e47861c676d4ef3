/-
  A row of two-cell elements, cell by cell; the builtin clear.
-/
import Derived.Test.YbulknbsFmtIndex
import Derived.Laws.IdiomCopy
namespace Go.Proofs.YbulknbsFmt
open Go.RowKit


/-- the cells that clear lays -/
def zs65 (n : Nat) : List Value := (Builtin.zeroCells #[.int .u8 0, .slice none 0 0] n).toList
theorem zs65_length (n : Nat) : (zs65 n).length = n * 2 := by simp [zs65, Builtin.zeroCells]
theorem zs65_one (n : Nat) : ∀ v ∈ zs65 n, v.oneCell' = true := by
  intro v hv
  simp only [zs65, Builtin.zeroCells, Array.toList_map, List.mem_map] at hv
  obtain ⟨i, _, rfl⟩ := hv
  rcases (by omega : i % 2 = 0 ∨ i % 2 = 1) with h | h
  · simp [h]; rfl
  · simp [h]; rfl

theorem run_clear65 (w : World) (ty : TypeId) (b o n c : Nat) (hn : 0 < n)
    (hc : ∀ j, j < n * 2 → (w.cell? ⟨b, o + j, none⟩).isSome = true) (hf : ∀ j, j < n * 2 → w.frozen? ⟨b, o + j, none⟩ = false) :
    (Builtin.clear_ #[35] ty #[.slice (some ⟨b, o, none⟩) n c]).run Ybaf.prog w = .ok (.tuple #[]) (w.setCells b o (zs65 n)) := by
  have hst := run_storeCells_cells (P := Ybaf.prog) b o (zs65 n) 0 w (by rw [zs65_length]; simpa using hc) (by rw [zs65_length]; simpa using hf) (zs65_one n)
  simp only [Nat.add_zero] at hst
  obtain ⟨m, rfl⟩ : ∃ m, n = m + 1 := ⟨n - 1, by omega⟩
  have hz : (Value.agg #[.int .u8 0, .slice none 0 0]).cells = #[.int .u8 0, .slice none 0 0] := rfl
  unfold zs65 at hst ⊢
  simp [Builtin.clear_, run_underlying Ybaf.underlying35, hz, hst]

/-- a row of the call's own, cell by cell -/
def RowAt (w : World) (g N : Nat) (F : Nat → Value) : Prop := ∃ cur, w.heap[g]? = some (.cells cur 65 (0, 0)) ∧ cur.size = N ∧ ∀ j, j < N → cur[j]? = some (F j)

theorem RowAt.lt {w : World} {g N : Nat} {F : Nat → Value} (h : RowAt w g N F) : g < w.heap.size := by
  obtain ⟨cur, hb, _, _⟩ := h
  rcases Nat.lt_or_ge g w.heap.size with hh | hh
  · exact hh
  · rw [Array.getElem?_eq_none hh] at hb; cases hb
theorem RowAt.cell {w : World} {g N : Nat} {F : Nat → Value} (h : RowAt w g N F) (j : Nat) (hj : j < N) : w.cell? ⟨g, j, none⟩ = some (F j) := by
  obtain ⟨cur, hb, _, hc⟩ := h
  rw [cell_of_row w g j cur 65 (0, 0) hb]
  exact hc j hj
theorem RowAt.frozen {w : World} {g N : Nat} {F : Nat → Value} (h : RowAt w g N F) (j : Nat) : w.frozen? ⟨g, j, none⟩ = false := by
  obtain ⟨cur, hb, _, _⟩ := h
  simp [World.frozen?, hb]
theorem RowAt.of_heap {w w' : World} {g N : Nat} {F : Nat → Value} (h : RowAt w g N F) (e : w'.heap[g]? = w.heap[g]?) : RowAt w' g N F := by
  obtain ⟨cur, hb, h1, h2⟩ := h
  exact ⟨cur, e.trans hb, h1, h2⟩
theorem RowAt.later {w w' : World} {g N : Nat} {F : Nat → Value} (h : RowAt w g N F) (B : Below w.heap.size w w') : RowAt w' g N F := h.of_heap (B.block g h.lt)
theorem RowAt.set {w : World} {g N : Nat} {F : Nat → Value} (h : RowAt w g N F) (j : Nat) (hj : j < N) (v : Value) (G : Nat → Value) (h1 : G j = v) (h2 : ∀ i, i < N → i ≠ j → G i = F i) : RowAt (w.setCell ⟨g, j, none⟩ v) g N G := by
  obtain ⟨cur, hb, hn, hc⟩ := h
  refine ⟨cur.setIfInBounds j v, ?_, by simpa using hn, fun i hi => ?_⟩
  · simp [World.setCell, hb, Array.getElem?_modify]
  · by_cases e : j = i
    · subst e; rw [h1]; have hjc : j < cur.size := by omega
      simp [hjc]
    · rw [h2 i hi (Ne.symm e), ← hc i hi]; simp [e]
theorem RowAt.clear {g N : Nat} : ∀ (vs : List Value) (o : Nat) (w : World) (F : Nat → Value), RowAt w g N F → o + vs.length ≤ N → ∃ G, RowAt (w.setCells g o vs) g N G ∧ ∀ i, i < o → G i = F i
  | [], _, w, F, h, _ => ⟨F, h, fun _ _ => rfl⟩
  | v :: r, o, w, F, h, hl => by
    have h' := h.set o (by simp at hl; omega) v (fun i => if i = o then v else F i) (by simp) (fun i _ hi => by simp [hi])
    obtain ⟨G, hG, hg⟩ := RowAt.clear r (o + 1) _ _ h' (by simp at hl; omega)
    exact ⟨G, hG, fun i hi => by rw [hg i (by omega)]; simp [show i ≠ o by omega]⟩

theorem rowAt_of_own {base : Nat} {w : World} {g n cap : Nat} {xs : List Value} (h : w.ownsRow base 65 2 (.slice (some ⟨g, 0, none⟩) n cap) n xs) :
    ∃ F, RowAt w g (cap * 2) F ∧ (∀ j, j < n * 2 → xs[j]? = some (F j)) ∧ n ≤ cap ∧ cap ≤ maxLen ∧ base ≤ g := by
  rcases h.2 with ⟨h0, _⟩ | ⟨g', cap', cur, hv, hbg, hg, hnc, hcm, hcs, htake⟩
  · cases h0
  · cases hv
    refine ⟨fun j => (cur[j]?).getD undef, ⟨cur, hg, hcs, fun j hj => by simp [show j < cur.size by omega]⟩, fun j hj => ?_, hnc, hcm, hbg⟩
    have hjc : j < cur.size := by omega
    rw [← htake]
    simp [hj, hjc]
theorem own_of_rowAt {base : Nat} {w : World} {g n cap : Nat} {F : Nat → Value} {xs : List Value} (R : RowAt w g (cap * 2) F) (hb : base ≤ g) (hn : n ≤ cap) (hm : cap ≤ maxLen) (hl : xs.length = n * 2) (hx : ∀ j, j < n * 2 → xs[j]? = some (F j)) :
    w.ownsRow base 65 2 (.slice (some ⟨g, 0, none⟩) n cap) n xs := by
  obtain ⟨cur, hg, hcs, hc⟩ := R
  refine ⟨hl, .inr ⟨g, cap, cur, rfl, hb, hg, hn, hm, hcs, ?_⟩⟩
  apply List.ext_getElem?
  intro j
  by_cases hj : j < n * 2
  · rw [hx j hj, ← hc j (by omega)]
    simp [hj]
  · rw [List.getElem?_eq_none (by simp; omega), List.getElem?_eq_none (by omega)]
end Go.Proofs.YbulknbsFmt
