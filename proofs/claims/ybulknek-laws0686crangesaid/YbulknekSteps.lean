/-
  What stands while tableOf lays the lines: the plain steps.
-/
import Derived.Test.YbulknekTab
import Derived.Laws.Slices
namespace Go.Proofs.Ybulknek
open Go.RowKit

theorem at1 (w : World) (jobs : Nat) (f : Nat → Nat) (s : Nat → Int) (n : Nat) :
    ∃ k : Nat, k ≤ n ∧ Value.int .i64 0 = .int .i64 k ∧ (((w.alloc (.cells #[.slice none 0 0, .slice none 0 0, .slice none 0 0] 39)).alloc (.cells (mkz (.int .i64 0) (jobs + 1)) 3)).alloc (.cells #[.slice (some ⟨w.heap.size + 1, 0, none⟩) (jobs + 1) (jobs + 1), .slice none 0 0, .slice none 0 0] 39)).heap.size = w.heap.size + 1 + 1 + 1 ∧
      Below w.heap.size w (((w.alloc (.cells #[.slice none 0 0, .slice none 0 0, .slice none 0 0] 39)).alloc (.cells (mkz (.int .i64 0) (jobs + 1)) 3)).alloc (.cells #[.slice (some ⟨w.heap.size + 1, 0, none⟩) (jobs + 1) (jobs + 1), .slice none 0 0, .slice none 0 0] 39)) ∧
      Row (((w.alloc (.cells #[.slice none 0 0, .slice none 0 0, .slice none 0 0] 39)).alloc (.cells (mkz (.int .i64 0) (jobs + 1)) 3)).alloc (.cells #[.slice (some ⟨w.heap.size + 1, 0, none⟩) (jobs + 1) (jobs + 1), .slice none 0 0, .slice none 0 0] 39)) w.heap.size 3 (fun _ => .slice none 0 0) ∧
      Row (((w.alloc (.cells #[.slice none 0 0, .slice none 0 0, .slice none 0 0] 39)).alloc (.cells (mkz (.int .i64 0) (jobs + 1)) 3)).alloc (.cells #[.slice (some ⟨w.heap.size + 1, 0, none⟩) (jobs + 1) (jobs + 1), .slice none 0 0, .slice none 0 0] 39)) (w.heap.size + 1) (jobs + 1) (fun j => .int .i64 (st1 f s k j)) ∧
      Row (((w.alloc (.cells #[.slice none 0 0, .slice none 0 0, .slice none 0 0] 39)).alloc (.cells (mkz (.int .i64 0) (jobs + 1)) 3)).alloc (.cells #[.slice (some ⟨w.heap.size + 1, 0, none⟩) (jobs + 1) (jobs + 1), .slice none 0 0, .slice none 0 0] 39)) (w.heap.size + 1 + 1) 3 (tb (w.heap.size + 1) (jobs + 1)) := by
  refine ⟨0, Nat.zero_le _, rfl, by simp, ?_, ?_, ?_, ?_⟩
  · exact ((((Below.refl _ w).alloc (Nat.le_refl _) _).alloc (by simp) _).alloc (by simp; omega) _)
  · refine Row.alloc (Row.alloc (Row.new w _ _ 3 _ (by simp) ?_) _) _
    intro j hj
    match j, hj with
    | 0, _ => rfl
    | 1, _ => rfl
    | 2, _ => rfl
  · refine Row.alloc ?_ _
    have := Row.new (w.alloc (.cells #[.slice none 0 0, .slice none 0 0, .slice none 0 0] 39)) (mkz (.int .i64 0) (jobs + 1)) 3 (jobs + 1) (fun j => .int .i64 (st1 f s 0 j)) (by rw [mkz_size]; exact Nat.le_refl _) (fun j hj => by rw [mkz_get _ _ _ rfl hj]; simp [st1, ce])
    simpa using this
  · have := Row.new ((w.alloc (.cells #[.slice none 0 0, .slice none 0 0, .slice none 0 0] 39)).alloc (.cells (mkz (.int .i64 0) (jobs + 1)) 3)) #[.slice (some ⟨w.heap.size + 1, 0, none⟩) (jobs + 1) (jobs + 1), .slice none 0 0, .slice none 0 0] 39 3 (tb (w.heap.size + 1) (jobs + 1)) (by simp) (fun j hj => by
        match j, hj with
        | 0, _ => rfl
        | 1, _ => rfl
        | 2, _ => rfl)
    simpa using this

theorem Row.take {w : World} {b n m : Nat} {f : Nat → Value} (h : Row w b n f) (hm : m ≤ n) : Row w b m f := by
  obtain ⟨cs, t, hb, h1, h2⟩ := h
  exact ⟨cs, t, hb, by omega, fun j hj => h2 j (by omega)⟩

/-- what stands in 'start' while the sums are made -/
def st2 (f : Nat → Nat) (s : Nat → Int) (n i j : Nat) : Nat := if j ≤ i then cl f s j n else ce f s (j - 1) n

/-- the table's three slices -/
def tb3 (H m M : Nat) : Nat → Value
  | 0 => .slice (some ⟨H + 1, 0, none⟩) m m
  | 1 => .slice (some ⟨H + 1 + 1 + 1, 0, none⟩) M M
  | _ => .slice (some ⟨H + 1 + 1 + 1 + 1, 0, none⟩) M M

/-- while the lines are laid -/
structure St3 (H : Nat) (w wr : World) (f : Nat → Nat) (to s : Nat → Int) (jobs n M D k : Nat) : Prop where
  B : Below H w wr
  R0 : Row wr H 3 (fun _ => .slice none 0 0)
  R1 : Row wr (H + 1) (jobs + 1) (fun j => .int .i64 (cl f s j n))
  R2 : Row wr (H + 1 + 1) 3 (tb3 H (jobs + 1) M)
  RA : ∃ ta : Nat → Value, Row wr (H + 1 + 1 + 1) M ta ∧ ∀ k', k' < k → 0 < s k' → ta (pos f s n k') = .int .i32 (to k')
  RC : ∃ tc : Nat → Value, Row wr (H + 1 + 1 + 1 + 1) M tc ∧ ∀ k', k' < k → 0 < s k' → tc (pos f s n k') = .int .i64 (s k')
  RD : Row wr D jobs (fun j => .int .i64 ((cl f s j n + ce f s j k : Nat) : Int))
  hD : H + 1 + 1 + 1 + 1 < D

theorem St3.start {w wr w3 : World} {f : Nat → Nat} {to s : Nat → Int} {jobs n M D : Nat} (hsz : wr.heap.size = w.heap.size + 1 + 1 + 1) (B : Below w.heap.size w wr)
    (R0 : Row wr w.heap.size 3 (fun _ => .slice none 0 0)) (R1 : Row wr (w.heap.size + 1) (jobs + 1) (fun j => .int .i64 (st2 f s n jobs j))) (R2 : Row wr (w.heap.size + 1 + 1) 3 (tb (w.heap.size + 1) (jobs + 1)))
    (hd : ((((wr.setCell ⟨w.heap.size + 1 + 1, 1, none⟩ (.slice (some ⟨w.heap.size + 1 + 1 + 1, 0, none⟩) M M)).setCell ⟨w.heap.size + 1 + 1, 2, none⟩ (.slice (some ⟨w.heap.size + 1 + 1 + 1 + 1, 0, none⟩) M M)).alloc (.cells (mkz (.int .i32 0) M) 21)).alloc (.cells (mkz (.int .i64 0) M) 2)).heap.size ≤ D)
    (RD : Row w3 D jobs (fun j => .int .i64 (cl f s j n)))
    (B3 : Below ((((wr.setCell ⟨w.heap.size + 1 + 1, 1, none⟩ (.slice (some ⟨w.heap.size + 1 + 1 + 1, 0, none⟩) M M)).setCell ⟨w.heap.size + 1 + 1, 2, none⟩ (.slice (some ⟨w.heap.size + 1 + 1 + 1 + 1, 0, none⟩) M M)).alloc (.cells (mkz (.int .i32 0) M) 21)).alloc (.cells (mkz (.int .i64 0) M) 2)).heap.size ((((wr.setCell ⟨w.heap.size + 1 + 1, 1, none⟩ (.slice (some ⟨w.heap.size + 1 + 1 + 1, 0, none⟩) M M)).setCell ⟨w.heap.size + 1 + 1, 2, none⟩ (.slice (some ⟨w.heap.size + 1 + 1 + 1 + 1, 0, none⟩) M M)).alloc (.cells (mkz (.int .i32 0) M) 21)).alloc (.cells (mkz (.int .i64 0) M) 2)) w3) :
    St3 w.heap.size w w3 f to s jobs n M D 0 := by
  have hs2 : ((wr.setCell ⟨w.heap.size + 1 + 1, 1, none⟩ (.slice (some ⟨w.heap.size + 1 + 1 + 1, 0, none⟩) M M)).setCell ⟨w.heap.size + 1 + 1, 2, none⟩ (.slice (some ⟨w.heap.size + 1 + 1 + 1 + 1, 0, none⟩) M M)).heap.size = w.heap.size + 1 + 1 + 1 := by rw [size_setCell, size_setCell, hsz]
  generalize hW : (wr.setCell ⟨w.heap.size + 1 + 1, 1, none⟩ (.slice (some ⟨w.heap.size + 1 + 1 + 1, 0, none⟩) M M)).setCell ⟨w.heap.size + 1 + 1, 2, none⟩ (.slice (some ⟨w.heap.size + 1 + 1 + 1 + 1, 0, none⟩) M M) = W at hd B3 hs2
  have BW : Below w.heap.size w W := by rw [← hW]; exact (B.setCell (by simp; omega) _).setCell (by simp; omega) _
  have hd' : w.heap.size + 1 + 1 + 1 + 1 < D := by simp at hd; omega
  refine ⟨((BW.alloc (by omega) _).alloc (by simp; omega) _).trans (B3.mono (by simp; omega)), ?_, ?_, ?_, ⟨fun _ => .int .i32 0, ?_, fun k' h => by omega⟩, ⟨fun _ => .int .i64 0, ?_, fun k' h => by omega⟩, RD.congr (fun j hj => by simp [ce]), hd'⟩
  · refine Row.below (Row.alloc (Row.alloc ?_ _) _) B3
    rw [← hW]
    exact Row.other (Row.other R0 _ _ (by simp; omega)) _ _ (by simp; omega)
  · refine Row.below (Row.alloc (Row.alloc ?_ _) _) B3
    rw [← hW]
    exact Row.congr (Row.other (Row.other R1 _ _ (by simp)) _ _ (by simp)) (fun j hj => by simp [st2, show j ≤ jobs by omega])
  · refine Row.below (Row.alloc (Row.alloc ?_ _) _) B3
    rw [← hW]
    refine Row.set (f := fun j => if j = 1 then .slice (some ⟨w.heap.size + 1 + 1 + 1, 0, none⟩) M M else tb (w.heap.size + 1) (jobs + 1) j) (Row.set R2 1 (by omega) _ _ (by simp) (fun i _ h => by simp [h])) 2 (by omega) _ _ rfl ?_
    intro j hj hne
    match j, hj, hne with
    | 0, _, _ => rfl
    | 1, _, _ => rfl
    | 2, _, h => exact absurd rfl h
  · have := Row.new W (mkz (.int .i32 0) M) 21 M (fun _ => .int .i32 0) (by rw [mkz_size]; exact Nat.le_refl _) (fun j hj => mkz_get _ _ _ rfl hj)
    rw [hs2] at this
    exact Row.below (Row.alloc this _) B3
  · have := Row.new (W.alloc (.cells (mkz (.int .i32 0) M) 21)) (mkz (.int .i64 0) M) 2 M (fun _ => .int .i64 0) (by rw [mkz_size]; exact Nat.le_refl _) (fun j hj => mkz_get _ _ _ rfl hj)
    rw [show (W.alloc (.cells (mkz (.int .i32 0) M) 21)).heap.size = w.heap.size + 1 + 1 + 1 + 1 by simp; omega] at this
    exact Row.below this B3

theorem ce_miss (f : Nat → Nat) (s : Nat → Int) (i q : Nat) (h : ¬ (0 < s q ∧ f q = i)) : ce f s i (q + 1) = ce f s i q := by simp only [ce]; rw [if_neg h]; rfl

theorem St3.of_heap {H : Nat} {w wr wr' : World} {f : Nat → Nat} {to s : Nat → Int} {jobs n M D k : Nat} (I : St3 H w wr f to s jobs n M D k) (e : wr'.heap = wr.heap) (B : Below H w wr') : St3 H w wr' f to s jobs n M D k := by
  have h : ∀ b : Nat, wr'.heap[b]? = wr.heap[b]? := fun b => by rw [e]
  obtain ⟨ta, RA, hta⟩ := I.RA
  obtain ⟨tc, RC, htc⟩ := I.RC
  exact ⟨B, I.R0.of_heap (h _), I.R1.of_heap (h _), I.R2.of_heap (h _), ⟨ta, RA.of_heap (h _), hta⟩, ⟨tc, RC.of_heap (h _), htc⟩, I.RD.of_heap (h _), I.hD⟩

theorem St3.skip {H : Nat} {w wr : World} {f : Nat → Nat} {to s : Nat → Int} {jobs n M D q : Nat} (I : St3 H w wr f to s jobs n M D q) (h : ¬ 0 < s q) : St3 H w wr f to s jobs n M D (q + 1) := by
  obtain ⟨ta, RA, hta⟩ := I.RA
  obtain ⟨tc, RC, htc⟩ := I.RC
  have hlt : ∀ k', k' < q + 1 → 0 < s k' → k' < q := fun k' h1 h2 => by
    by_cases e : k' = q
    · subst e; exact absurd h2 h
    · omega
  exact ⟨I.B, I.R0, I.R1, I.R2, ⟨ta, RA, fun k' h1 h2 => hta k' (hlt k' h1 h2) h2⟩, ⟨tc, RC, fun k' h1 h2 => htc k' (hlt k' h1 h2) h2⟩, I.RD.congr (fun j hj => by rw [ce_miss f s j q (fun hh => h hh.1)]), I.hD⟩

theorem St3.step {H : Nat} {w wr : World} {f : Nat → Nat} {to s : Nat → Int} {jobs n M D q p fk : Nat} (I : St3 H w wr f to s jobs n M D q) (h : 0 < s q) (hq : q < n) (hp : pos f s n q = p) (hfk : f q = fk) (hpM : p < M) (hfj : fk < jobs) :
    St3 H w (((wr.setCell ⟨H + 1 + 1 + 1, p, none⟩ (.int .i32 (to q))).setCell ⟨H + 1 + 1 + 1 + 1, p, none⟩ (.int .i64 (s q))).setCell ⟨D, fk, none⟩ (.int .i64 ((p : Int) + 1))) f to s jobs n M D (q + 1) := by
  have hD := I.hD
  obtain ⟨ta, RA, hta⟩ := I.RA
  obtain ⟨tc, RC, htc⟩ := I.RC
  have hne : ∀ k', k' < q + 1 → 0 < s k' → k' ≠ q → k' < q ∧ pos f s n k' ≠ p := fun k' h1 h2 h3 => ⟨by omega, by rw [← hp]; exact pos_ne f s h2 h (by omega) hq⟩
  refine ⟨((I.B.setCell (by simp; omega) _).setCell (by simp; omega) _).setCell (by simp; omega) _, ?_, ?_, ?_, ⟨fun j => if j = p then .int .i32 (to q) else ta j, ?_, ?_⟩, ⟨fun j => if j = p then .int .i64 (s q) else tc j, ?_, ?_⟩, ?_, hD⟩
  · exact Row.other (Row.other (Row.other I.R0 _ _ (by dsimp only; omega)) _ _ (by dsimp only; omega)) _ _ (by dsimp only; omega)
  · exact Row.other (Row.other (Row.other I.R1 _ _ (by dsimp only; omega)) _ _ (by dsimp only; omega)) _ _ (by dsimp only; omega)
  · exact Row.other (Row.other (Row.other I.R2 _ _ (by dsimp only; omega)) _ _ (by dsimp only; omega)) _ _ (by dsimp only; omega)
  · exact Row.other (Row.other (Row.set RA p hpM _ _ (by simp) (fun i _ hi => by simp [hi])) _ _ (by simp)) _ _ (by simp; omega)
  · intro k' h1 h2
    by_cases e : k' = q
    · subst e; simp [hp]
    · have := hne k' h1 h2 e
      simp [this.2, hta k' this.1 h2]
  · exact Row.other (Row.set (Row.other RC _ _ (by simp)) p hpM _ _ (by simp) (fun i _ hi => by simp [hi])) _ _ (by simp; omega)
  · intro k' h1 h2
    by_cases e : k' = q
    · subst e; simp [hp]
    · have := hne k' h1 h2 e
      simp [this.2, htc k' this.1 h2]
  · refine Row.set (Row.other (Row.other I.RD _ _ (by simp; omega)) _ _ (by simp; omega)) fk hfj _ _ ?_ (fun j hj hne => ?_)
    · have h1 := ce_hit f s h
      rw [hfk] at h1
      have h2 : cl f s fk n + ce f s fk q = p := by rw [← hp, ← hfk]; rfl
      rw [h1]; congr 1; omega
    · rw [ce_miss f s j q (fun hh => hne (by rw [← hh.2, hfk]))]

/-- the table as tableOf hands it back -/
structure Table (w : World) (S A C : Nat) (f : Nat → Nat) (to s : Nat → Int) (jobs n : Nat) : Prop where
  st : Row w S (jobs + 1) (fun j => .int .i64 (cl f s j n))
  to : ∀ k, k < n → 0 < s k → w.cell? ⟨A, pos f s n k, none⟩ = some (.int .i32 (to k))
  se : ∀ k, k < n → 0 < s k → w.cell? ⟨C, pos f s n k, none⟩ = some (.int .i64 (s k))

theorem St3.table {H : Nat} {w wr : World} {f : Nat → Nat} {to s : Nat → Int} {jobs n M D : Nat} (I : St3 H w wr f to s jobs n M D n) (hf : ∀ k, k < n → f k < jobs) (hM : cl f s jobs n = M) (v0 v1 v2 : Value) :
    Table (((wr.setCell ⟨H, 0, none⟩ v0).setCell ⟨H, 1, none⟩ v1).setCell ⟨H, 2, none⟩ v2) (H + 1) (H + 1 + 1 + 1) (H + 1 + 1 + 1 + 1) f to s jobs n := by
  obtain ⟨ta, RA, hta⟩ := I.RA
  obtain ⟨tc, RC, htc⟩ := I.RC
  refine ⟨Row.other (Row.other (Row.other I.R1 _ _ (by simp)) _ _ (by simp)) _ _ (by simp), fun k hk h => ?_, fun k hk h => ?_⟩
  · rw [(Row.other (Row.other (Row.other RA ⟨H, 0, none⟩ v0 (by simp; omega)) ⟨H, 1, none⟩ v1 (by simp; omega)) ⟨H, 2, none⟩ v2 (by simp; omega)).cell _ (by rw [← hM]; exact pos_lt' f s h hk (hf k hk)), hta k hk h]
  · rw [(Row.other (Row.other (Row.other RC ⟨H, 0, none⟩ v0 (by simp; omega)) ⟨H, 1, none⟩ v1 (by simp; omega)) ⟨H, 2, none⟩ v2 (by simp; omega)).cell _ (by rw [← hM]; exact pos_lt' f s h hk (hf k hk)), htc k hk h]

end Go.Proofs.Ybulknek
