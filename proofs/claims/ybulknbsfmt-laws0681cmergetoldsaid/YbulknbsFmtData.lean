/-
  What came in, opened: slices of numbers, slices of segments.
-/
import Derived.Test.YbulknbsFmtSegs
import Derived.ProofKit
import Derived.OpenShut
import Derived.ChangeSame
import Derived.Deep.SlicePairs
namespace Go.Proofs.YbulknbsFmt
open Go.ChangeShapes Go.WideShapes Go.ChangeAt Go.RowKit Go.Kit

/-- a slice of numbers as it came in -/
theorem nums_in {H : Type} {enc : TypeId × Value → H} {W : World} {k : IntKind} {t e : TypeId} {fuel : Nat} {v : Value} {x : DataW H × List MemPlace} (ht : Ybaf.prog.underlying t = some (.slice e)) (he : Ybaf.prog.underlying e = some (.int k)) (hc : Ybaf.prog.cellsOf e = 1)
    (h : DataW.trod enc Ybaf.prog W 0 (fun _ => true) true fuel t [v] = some x) :
    ∃ xs, NumsAt k W v xs ∧ (∀ n ∈ xs, (Lit.int k n).wf = true) ∧ ∀ B, (∀ n ∈ x.1.weights Ybaf.prog t, n ≤ B) → xs.length * Ybaf.prog.bytesOf e ≤ B := by
  rcases open_ints ht he hc h with ⟨hcs, _⟩ | ⟨a, l, c, zs, hcs, _, hl, hm, hz, hx, hcell, hwz⟩
  · obtain rfl : v = .slice none 0 0 := by simpa using hcs
    exact ⟨[], ⟨none, 0, rfl, Nat.le_refl _, (fun _ => rfl), fun h => absurd h (by simp)⟩, fun n hn => by simp at hn, fun B _ => by simp⟩
  · obtain rfl : v = .slice (some a) l c := by simpa using hcs
    simp only [if_true] at hz
    have hlen : (zs.take l).length = l := by simp; omega
    refine ⟨zs.take l, ⟨some a, c, by rw [hlen], by omega, (fun h => by cases h), fun hp => ?_⟩, fun n hn => hwz n (List.mem_of_mem_take hn), fun B hB => ?_⟩
    · obtain ⟨b, off, rfl, hcc⟩ := ints_at hcell (by omega)
      refine ⟨b, off, rfl, fun i hi => ?_⟩
      rw [hlen] at hi
      rw [hcc i (by omega)]
      simp [hi]
    · subst hx
      simp only [DataW.weights, ht] at hB
      have h1 := hB _ (List.mem_cons_self ..)
      have h2 : (lits (H := H) k (zs.take l)).length + (lits (H := H) k (zs.drop l)).length = zs.length := by simp [lits]; omega
      rw [h2] at h1
      rw [hlen]
      exact Nat.le_trans (Nat.mul_le_mul_right _ (by omega)) h1

theorem weightsAll_mem {H : Type} {P : Program} {e : TypeId} : ∀ {l : List (DataW H)} {d : DataW H}, d ∈ l → ∀ n ∈ d.weights P e, n ∈ DataW.weightsAll P e l
  | x :: r, d, hd, n, hn => by
    simp only [DataW.weightsAll, List.mem_append]
    rcases List.mem_cons.1 hd with rfl | hd
    · exact .inl hn
    · exact .inr (weightsAll_mem hd n hn)

/-- a slice of segments as it came in -/
theorem segs_in {H : Type} {enc : TypeId × Value → H} {W : World} {fuel : Nat} {v : Value} {x : DataW H × List MemPlace}
    (h : DataW.trod enc Ybaf.prog W 0 (fun _ => true) true fuel 70 [v] = some x) (hw : ∀ n ∈ x.1.weights Ybaf.prog 70, n ≤ 140737488351232) :
    ∃ ss, SegsAt W v ss ∧ (∀ i, 0 ≤ (ss.getD i (0, [])).1 ∧ (ss.getD i (0, [])).1 ≤ 255) ∧ (∀ i, (ss.getD i (0, [])).2.length ≤ 35184372088832) ∧ ∀ s ∈ ss, ∀ y ∈ s.2, 0 ≤ y ∧ y ≤ 4294967295 := by
  have b42 : Ybaf.prog.bytesOf 42 = 4 := by kernel_rfl
  rcases Deep.open_slice_pairs Ybaf.underlying70 Ybaf.underlying71 (by kernel_rfl) rfl rfl (by kernel_rfl) (by kernel_rfl) h with ⟨hcs, _⟩ | ⟨a, l, c, m, n, V0, V1, D0, D1, P0, P1, hcs, _, hl, hm, hmm, hx, hcell⟩
  · obtain rfl : v = .slice none 0 0 := by simpa using hcs
    exact ⟨[], ⟨none, 0, rfl, Nat.le_refl _, (fun _ => rfl), fun h => absurd h (by simp)⟩, fun i => by simp, fun i => by simp, fun s hs => by simp at hs⟩
  · obtain rfl : v = .slice (some a) l c := by simpa using hcs
    simp only [if_true] at hmm
    subst hmm
    have key : ∀ i, ∃ p : Int × List Int, i < l → W.cell? (a.add (i * 2)) = some (.int .u8 p.1) ∧ (0 ≤ p.1 ∧ p.1 ≤ 255) ∧ (∃ a' n' c', W.cell? (a.add (i * 2 + 1)) = some (.slice a' n' c') ∧ NumsAt .u32 W (.slice a' n' c') p.2) ∧ p.2.length ≤ 35184372088832 ∧ ∀ y ∈ p.2, 0 ≤ y ∧ y ≤ 4294967295 := fun i => by
      by_cases hi : i < l
      · obtain ⟨c0, c1, t0, t1⟩ := hcell i (by omega)
        obtain ⟨z, hz, _, hzw⟩ := DataW.trod_int Ybaf.underlying5 t0
        obtain ⟨xs, N, hxw, hxb⟩ := nums_in Ybaf.underlying58 Ybaf.underlying42 (by kernel_rfl) t1
        have hz' : V0 i = .int .u8 z := by simpa using hz
        have hB := hxb 140737488351232 (fun n hn => hw n (by
          rw [hx]
          simp only [DataW.weights, Ybaf.underlying70]
          refine List.mem_cons_of_mem _ (List.mem_append_left _ (weightsAll_mem (d := .agg [D0 i, D1 i]) (List.mem_map.2 ⟨i, List.mem_range.2 hi, rfl⟩) n ?_))
          simp only [DataW.weights, Ybaf.underlying71, DataW.weightsEach, List.map_cons, List.map_nil, List.mem_append]
          exact .inr (.inl hn)))
        rw [b42] at hB
        refine ⟨(z, xs), fun _ => ⟨by rw [c0, hz'], bounds_u8 hzw, ?_, by show xs.length ≤ _; omega, fun y hy => bounds_u32 (hxw y hy)⟩⟩
        obtain ⟨a', c', hv, hr⟩ := N
        exact ⟨a', xs.length, c', by rw [c1, hv], a', c', rfl, hr⟩
      · exact ⟨(0, []), fun h => absurd h hi⟩
    obtain ⟨f, ch⟩ : ∃ f : Nat → Int × List Int, ∀ i, i < l → W.cell? (a.add (i * 2)) = some (.int .u8 (f i).1) ∧ (0 ≤ (f i).1 ∧ (f i).1 ≤ 255) ∧ (∃ a' n' c', W.cell? (a.add (i * 2 + 1)) = some (.slice a' n' c') ∧ NumsAt .u32 W (.slice a' n' c') (f i).2) ∧ (f i).2.length ≤ 35184372088832 ∧ ∀ y ∈ (f i).2, 0 ≤ y ∧ y ≤ 4294967295 :=
      ⟨fun i => Classical.choose (key i), fun i => Classical.choose_spec (key i)⟩
    have hg : ∀ i, i < l → ((List.range l).map f).getD i (0, []) = f i := fun i hi => by simp [hi]
    have hn : ∀ i, ¬ i < l → ((List.range l).map f).getD i (0, []) = (0, []) := fun i hi => by simp [hi]
    refine ⟨(List.range l).map f, ⟨some a, m, by simp, by simpa using hl, (fun h => by cases h), fun hp => ?_⟩, fun i => ?_, fun i => ?_, fun s hs => ?_⟩
    · have hp' : 0 < l := by simpa using hp
      obtain ⟨b, off, spot⟩ := a
      have hspot : spot = none := by simpa [Addr.add] using World.cell?_spot ((ch 0 hp').1)
      subst hspot
      refine ⟨b, off, rfl, fun i hi => ?_⟩
      have hi' : i < l := by simpa using hi
      obtain ⟨q1, _, ⟨a', n', c', q2, q3⟩, _, _⟩ := ch i hi'
      rw [hg i hi']
      rw [add_plain] at q1 q2
      exact ⟨q1, a', n', c', by rw [Nat.add_assoc]; exact q2, q3⟩
    · by_cases hi : i < l
      · rw [hg i hi]; exact (ch i hi).2.1
      · rw [hn i hi]; simp
    · by_cases hi : i < l
      · rw [hg i hi]; exact (ch i hi).2.2.2.1
      · rw [hn i hi]; simp
    · obtain ⟨i, hi, rfl⟩ := List.mem_map.1 hs
      exact (ch i (List.mem_range.1 hi)).2.2.2.2
end Go.Proofs.YbulknbsFmt
