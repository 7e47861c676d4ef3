/-
  A path in a row of the call's own.
-/
import Derived.Test.YbulknbsFmtEq
import Derived.Deep.RegionHeldLaw
import Derived.Laws.NewBlocks
namespace Go.Proofs.YbulknbsFmt
open Go.RowKit

theorem info65p : (Ybaf.prog.info? 65).map (fun i => (i.zero, i.size, i.bytes)) = some (some (.agg #[.int .u8 0, .slice none 0 0]), 2, 32) := by kernel_rfl
theorem build65 (t : Int) (a : Option Addr) (n c : Nat) (w : World) : (Instr.build 65 #[(0, .int .u8 t), (1, .slice a n c)]).run Ybaf.prog w = .ok (.agg #[.int .u8 t, .slice a n c]) w := by kernel_rfl

/-- the cells of a path's row -/
def flat : List (Int × Value) → List Value
  | [] => []
  | p :: r => .int .u8 p.1 :: p.2 :: flat r
theorem flat_length (l : List (Int × Value)) : (flat l).length = l.length * 2 := by
  induction l with
  | nil => rfl
  | cons p r ih => simp [flat, ih]; omega
theorem flat_append (l m : List (Int × Value)) : flat (l ++ m) = flat l ++ flat m := by
  induction l with
  | nil => rfl
  | cons p r ih => simp [flat, ih]
theorem flat_0 (l : List (Int × Value)) (i : Nat) (h : i < l.length) : (flat l)[i * 2]? = some (.int .u8 (l.getD i (0, undef)).1) := by
  induction l generalizing i with
  | nil => simp at h
  | cons p r ih =>
    cases i with
    | zero => simp [flat]
    | succ i =>
      rw [show (i + 1) * 2 = i * 2 + 1 + 1 by omega]
      simpa [flat] using ih i (by simpa using h)
theorem flat_1 (l : List (Int × Value)) (i : Nat) (h : i < l.length) : (flat l)[i * 2 + 1]? = some (l.getD i (0, undef)).2 := by
  induction l generalizing i with
  | nil => simp at h
  | cons p r ih =>
    cases i with
    | zero => simp [flat]
    | succ i =>
      rw [show (i + 1) * 2 + 1 = i * 2 + 1 + 1 + 1 by omega]
      simpa [flat] using ih i (by simpa using h)

/-- a path in a row that the call made; its numbers lie elsewhere -/
structure Own (base : Nat) (w : World) (v : Value) (ss : List (Int × List Int)) (l : List (Int × Value)) : Prop where
  own : w.ownsRow base 65 2 v ss.length (flat l)
  len : l.length = ss.length
  ty : ∀ i, i < ss.length → (l.getD i (0, undef)).1 = (ss.getD i (0, [])).1
  num : ∀ i, i < ss.length → NumsAt .u32 w (l.getD i (0, undef)).2 (ss.getD i (0, [])).2
  sep : ∀ i, i < ss.length → ∀ b, (l.getD i (0, undef)).2.ownBlock = some b → v.ownBlock ≠ some b ∧ b < w.heap.size

theorem ownsRow_later {B : Nat} {e : TypeId} {k : Nat} {v : Value} {n : Nat} {xs : List Value} {w w' : World} (h : w.ownsRow B e k v n xs) (hb : Below w.heap.size w w') : w'.ownsRow B e k v n xs := by
  refine ⟨h.1, ?_⟩
  rcases h.2 with h0 | ⟨g, cap, cur, hv, hbg, hg, hr⟩
  · exact .inl h0
  · have hlt : g < w.heap.size := by
      rcases Nat.lt_or_ge g w.heap.size with hh | hh
      · exact hh
      · rw [Array.getElem?_eq_none hh] at hg; cases hg
    exact .inr ⟨g, cap, cur, hv, hbg, by rw [hb.block g hlt]; exact hg, hr⟩
theorem Own.later {base : Nat} {w w' : World} {v : Value} {ss : List (Int × List Int)} {l : List (Int × Value)} (h : Own base w v ss l) (B : Below w.heap.size w w') : Own base w' v ss l :=
  ⟨ownsRow_later h.own B, h.len, h.ty, fun i hi => (h.num i hi).later B, fun i hi b hb => ⟨(h.sep i hi b hb).1, Nat.lt_of_lt_of_le (h.sep i hi b hb).2 B.size⟩⟩
theorem Own.none (base : Nat) (w : World) : Own base w (.slice none 0 0) [] [] :=
  ⟨⟨rfl, .inl ⟨rfl, rfl⟩⟩, rfl, fun i hi => absurd hi (by simp), fun i hi => absurd hi (by simp), fun i hi => absurd hi (by simp)⟩

theorem grown_cell {w w' : World} {row : Option Nat} {b o : Nat} {v : Value} (hg : w.grownBy w' row) (h : w.cell? ⟨b, o, Option.none⟩ = some v) (hne : row ≠ some b) : w'.cell? ⟨b, o, Option.none⟩ = some v :=
  (hg.cell_far ⟨b, o, Option.none⟩ (World.block_lt_of_cell? _ _ h) (Ne.symm hne)).trans h
theorem NumsAt.grown {k : IntKind} {w w' : World} {v : Value} {xs : List Int} {row : Option Nat} (h : NumsAt k w v xs) (hg : w.grownBy w' row) (hne : ∀ b, v.ownBlock = some b → row ≠ some b) : NumsAt k w' v xs := by
  obtain ⟨a, c, rfl, hc, hn, h⟩ := h
  refine ⟨a, c, rfl, hc, hn, fun hp => ?_⟩
  obtain ⟨b, off, rfl, hh⟩ := h hp
  exact ⟨b, off, rfl, fun i hi => grown_cell hg (hh i hi) (hne b rfl)⟩

theorem Own.segs {base : Nat} {w : World} {v : Value} {ss : List (Int × List Int)} {l : List (Int × Value)} (h : Own base w v ss l) : SegsAt w v ss := by
  rcases h.own.2 with ⟨rfl, h0⟩ | ⟨g, cap, cur, rfl, hbg, hg, hnc, hcm, hcs, htake⟩
  · exact ⟨Option.none, 0, by rw [h0], by omega, (fun _ => rfl), fun hp => by omega⟩
  · refine ⟨_, cap, rfl, hnc, (fun h => by cases h), fun _ => ⟨g, 0, rfl, fun i hi => ?_⟩⟩
    have hl := h.len
    have c0 := h.own.cellAt (i * 2) (by omega)
    have c1 := h.own.cellAt (i * 2 + 1) (by omega)
    rw [flat_0 l i (by omega), h.ty i hi] at c0
    rw [flat_1 l i (by omega)] at c1
    have hn := h.num i hi
    obtain ⟨a', c', hv, hr⟩ := hn
    rw [Nat.zero_add]
    refine ⟨c0, a', _, c', by rw [c1, hv], ?_⟩
    exact ⟨a', c', rfl, hr⟩

/-- the path one segment longer -/
theorem Own.push {base : Nat} {w w1 : World} {v : Value} {ss : List (Int × List Int)} {l : List (Int × Value)} {t : Int} {xs : List Int} {a : Option Addr} {n c g cap k : Nat} (h : Own base w v ss l)
    (hn : NumsAt .u32 w (.slice a n c) xs) (hb : ∀ b, (Value.slice a n c).ownBlock = some b → v.ownBlock ≠ some b ∧ b < w.heap.size)
    (hk : ss.length = k) (ho : w1.ownsRow base 65 2 (.slice (some ⟨g, 0, Option.none⟩) (k + 1) cap) (k + 1) (flat l ++ [.int .u8 t, .slice a n c])) (hg : w.grownBy w1 v.ownBlock) (hat : v.ownBlock = some g ∨ g = w.heap.size) :
    Own base w1 (.slice (some ⟨g, 0, Option.none⟩) (k + 1) cap) (ss ++ [(t, xs)]) (l ++ [(t, .slice a n c)]) := by
  have far : ∀ b, v.ownBlock ≠ some b ∧ b < w.heap.size → (Value.slice (some ⟨g, 0, Option.none⟩) (k + 1) cap).ownBlock ≠ some b ∧ b < w1.heap.size := fun b hb => by
    refine ⟨fun e => ?_, Nat.lt_of_lt_of_le hb.2 hg.size⟩
    have e' : g = b := by simpa [Value.ownBlock] using e
    rcases hat with h1 | h1
    · exact hb.1 (by rw [h1, e'])
    · omega
  have hl : l.length = ss.length := h.len
  have q1 : (l ++ [(t, Value.slice a n c)]).getD ss.length (0, undef) = (t, .slice a n c) := by rw [← hl]; simp
  have q2 : (ss ++ [(t, xs)]).getD ss.length (0, []) = (t, xs) := by simp
  have q3 : ∀ i, i < ss.length → (l ++ [(t, Value.slice a n c)]).getD i (0, undef) = l.getD i (0, undef) := fun i hi => by
    have : i < l.length := by omega
    simp [List.getElem?_append_left this]
  have q4 : ∀ i, i < ss.length → (ss ++ [(t, xs)]).getD i (0, []) = ss.getD i (0, []) := fun i hi => by simp [List.getElem?_append_left hi]
  have split : ∀ i, i < (ss ++ [(t, xs)]).length → i < ss.length ∨ i = ss.length := fun i hi => by simp at hi; omega
  refine ⟨by rw [flat_append]; simpa [flat, hk] using ho, by simp [hl], fun i hi => ?_, fun i hi => ?_, fun i hi b hbb => ?_⟩
  · rcases split i hi with e | rfl
    · rw [q3 i e, q4 i e]; exact h.ty i e
    · rw [q1, q2]
  · rcases split i hi with e | rfl
    · rw [q3 i e, q4 i e]; exact (h.num i e).grown hg (fun b hb => (h.sep i e b hb).1)
    · rw [q1, q2]; exact hn.grown hg (fun b hbb => (hb b hbb).1)
  · rcases split i hi with e | rfl
    · rw [q3 i e] at hbb; exact far b (h.sep i e b hbb)
    · rw [q1] at hbb; exact far b (hb b hbb)
end Go.Proofs.YbulknbsFmt
