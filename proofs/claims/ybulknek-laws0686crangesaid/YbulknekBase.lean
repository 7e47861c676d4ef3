/-
  The plain law of the counting sort; blocks of cells.
-/
import Derived.Test.YbulknekRows
import Derived.ProofKit
import Derived.OwnWalk
import Derived.Below
namespace Go.Proofs.Ybulknek
open Go.RowKit

/-- how many of the first n lines have a setup above 0 and follow a job below i -/
def cl (f : Nat → Nat) (s : Nat → Int) (i : Nat) : Nat → Nat
  | 0 => 0
  | n + 1 => cl f s i n + (if 0 < s n ∧ f n < i then 1 else 0)
/-- .. and follow the job i -/
def ce (f : Nat → Nat) (s : Nat → Int) (i : Nat) : Nat → Nat
  | 0 => 0
  | n + 1 => ce f s i n + (if 0 < s n ∧ f n = i then 1 else 0)

section
variable (f : Nat → Nat) (s : Nat → Int)
theorem cl_next (i n : Nat) : cl f s (i + 1) n = cl f s i n + ce f s i n := by
  induction n with
  | zero => rfl
  | succ n ih =>
    simp only [cl, ce, ih]
    by_cases h : 0 < s n
    · rcases Nat.lt_trichotomy (f n) i with h1 | h1 | h1
      · simp [h, h1, show f n < i + 1 by omega, show ¬ f n = i by omega]; omega
      · simp [h, h1]; omega
      · simp [h, show ¬ f n < i + 1 by omega, show ¬ f n < i by omega, show ¬ f n = i by omega]
    · simp [h]
theorem cl_zero (n : Nat) : cl f s 0 n = 0 := by
  induction n with
  | zero => rfl
  | succ n ih => simp [cl, ih]
theorem cl_le (i n : Nat) : cl f s i n ≤ n := by
  induction n with
  | zero => exact Nat.le_refl _
  | succ n ih => simp only [cl]; split <;> omega
theorem ce_le (i n : Nat) : ce f s i n ≤ n := by
  induction n with
  | zero => exact Nat.le_refl _
  | succ n ih => simp only [ce]; split <;> omega
theorem ce_mono (i : Nat) {k n : Nat} (h : k ≤ n) : ce f s i k ≤ ce f s i n := by
  induction n with
  | zero => obtain rfl : k = 0 := by omega
            exact Nat.le_refl _
  | succ n ih =>
    by_cases e : k = n + 1
    · subst e; exact Nat.le_refl _
    · have := ih (by omega); simp only [ce]; omega
theorem cl_mono (n : Nat) {i j : Nat} (h : i ≤ j) : cl f s i n ≤ cl f s j n := by
  induction j with
  | zero => obtain rfl : i = 0 := by omega
            exact Nat.le_refl _
  | succ j ih =>
    by_cases e : i = j + 1
    · subst e; exact Nat.le_refl _
    · have := ih (by omega); rw [cl_next]; omega
theorem ce_hit {k : Nat} (h : 0 < s k) : ce f s (f k) (k + 1) = ce f s (f k) k + 1 := by simp [ce, h]
theorem ce_lt {k n : Nat} (h : 0 < s k) (hk : k < n) : ce f s (f k) k < ce f s (f k) n := by
  have h1 := ce_hit f s h
  have h2 := ce_mono f s (f k) (show k + 1 ≤ n by omega)
  omega
/-- where the line k goes -/
def pos (n k : Nat) : Nat := cl f s (f k) n + ce f s (f k) k
theorem pos_lt {n k : Nat} (h : 0 < s k) (hk : k < n) : pos f s n k < cl f s (f k + 1) n := by
  unfold pos
  rw [cl_next]
  have := ce_lt f s h hk
  omega
theorem pos_lt' {n k j : Nat} (h : 0 < s k) (hk : k < n) (hj : f k < j) : pos f s n k < cl f s j n :=
  Nat.lt_of_lt_of_le (pos_lt f s h hk) (cl_mono f s n (by omega))
theorem pos_ne {n k k' : Nat} (h : 0 < s k) (h' : 0 < s k') (hk : k < k') (hk' : k' < n) : pos f s n k ≠ pos f s n k' := by
  rcases Nat.lt_trichotomy (f k) (f k') with h1 | h1 | h1
  · have := pos_lt' f s h (show k < n by omega) h1
    unfold pos at this ⊢
    omega
  · unfold pos
    have := ce_lt f s h hk
    rw [h1] at this ⊢
    omega
  · have := pos_lt' f s h' hk' h1
    unfold pos at this ⊢
    omega
end

/-- a block of cells, as far as it is known -/
def Row (w : World) (b n : Nat) (f : Nat → Value) : Prop := ∃ cs t, w.heap[b]? = some (.cells cs t (0, 0)) ∧ n ≤ cs.size ∧ ∀ j, j < n → cs[j]? = some (f j)

theorem Row.lt {w : World} {b n : Nat} {f : Nat → Value} (h : Row w b n f) : b < w.heap.size := by
  obtain ⟨cs, t, hb, _, _⟩ := h
  rcases Nat.lt_or_ge b w.heap.size with hh | hh
  · exact hh
  · rw [Array.getElem?_eq_none hh] at hb; cases hb
theorem Row.cell {w : World} {b n : Nat} {f : Nat → Value} (h : Row w b n f) (j : Nat) (hj : j < n) : w.cell? ⟨b, j, none⟩ = some (f j) := by
  obtain ⟨cs, t, hb, _, hc⟩ := h
  rw [cell_of_row w b j cs t (0, 0) hb]
  exact hc j hj
theorem Row.frozen {w : World} {b n : Nat} {f : Nat → Value} (h : Row w b n f) (j : Nat) : w.frozen? ⟨b, j, none⟩ = false := by
  obtain ⟨cs, t, hb, _, _⟩ := h
  simp [World.frozen?, hb]
theorem Row.of_heap {w w' : World} {b n : Nat} {f : Nat → Value} (h : Row w b n f) (e : w'.heap[b]? = w.heap[b]?) : Row w' b n f := by
  obtain ⟨cs, t, hb, h1, h2⟩ := h
  exact ⟨cs, t, e.trans hb, h1, h2⟩
theorem Row.below {w w' : World} {b n : Nat} {f : Nat → Value} (h : Row w b n f) (B : Below w.heap.size w w') : Row w' b n f := h.of_heap (B.block b h.lt)
theorem Row.alloc {w : World} {b n : Nat} {f : Nat → Value} (h : Row w b n f) (o : Obj) : Row (w.alloc o) b n f := h.of_heap (Below.heap_alloc w o b h.lt)
theorem Row.new (w : World) (cs : Array Value) (t : TypeId) (n : Nat) (f : Nat → Value) (hn : n ≤ cs.size) (hf : ∀ j, j < n → cs[j]? = some (f j)) : Row (w.alloc (.cells cs t)) w.heap.size n f :=
  ⟨cs, t, by show (w.heap.push _)[w.heap.size]? = _; simp, hn, hf⟩
theorem Row.other {w : World} {b n : Nat} {f : Nat → Value} (h : Row w b n f) (p : Addr) (v : Value) (hp : p.block ≠ b) : Row (w.setCell p v) b n f := h.of_heap (Below.heap_setCell _ _ _ _ (by omega))
theorem Row.set {w : World} {b n : Nat} {f : Nat → Value} (h : Row w b n f) (j : Nat) (hj : j < n) (v : Value) (g : Nat → Value) (h1 : g j = v) (h2 : ∀ i, i < n → i ≠ j → g i = f i) : Row (w.setCell ⟨b, j, none⟩ v) b n g := by
  obtain ⟨cs, t, hb, hn, hc⟩ := h
  have hbl : b < w.heap.size := Row.lt ⟨cs, t, hb, hn, hc⟩
  refine ⟨cs.set! j v, t, ?_, by simpa using hn, fun i hi => ?_⟩
  · simp [World.setCell, hb, Array.getElem?_modify]
  · by_cases e : j = i
    · subst e; rw [h1]; have hjc : j < cs.size := by omega
      simp [Array.set!, hjc]
    · rw [h2 i hi (Ne.symm e), ← hc i hi]; simp [Array.set!, e]
end Go.Proofs.Ybulknek
