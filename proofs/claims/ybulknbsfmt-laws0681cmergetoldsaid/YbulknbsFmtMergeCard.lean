/-
  THE PROOF of 'Rows.LawS0681CMergeToldSaid': the told card.
-/
import Derived.Test.YbulknbsFmtLaw
import Derived.Test.YbulknbsFmtData
import Derived.Test.YbulknbsFmtCards
import Derived.ChangeVars
import Derived.LaidLaws
import Derived.Stop.JoinedAt
import Derived.Stop.JoinedTold
import Derived.SevenToldRow
namespace Go.Proofs.YbulknbsFmt
open Go.ChangeShapes Go.WideShapes Go.ChangeAt Go.RowKit Go.Kit
open Go.Extern.Stop Go.Stop Go.Extern

theorem own : ownKnob Ybaf.prog.godebug = Option.none := by kernel_rfl
theorem laidOut : laidOutB Ybaf.pinned.checked.prog = true := by kernel_rfl
theorem stopsAre : Ybaf.pinned.checked.prog.stops = Rows.lawS0681CMergeRow.stops := by kernel_rfl
theorem knobsAre : Ybaf.pinned.checked.prog.stopKnobs = [] := by kernel_rfl
theorem quietAt (os : Os) : Stop.quiet Ybaf.pinned.checked.prog os := by
  intro k hk
  rw [knobsAre] at hk
  cases hk
theorem bytes5 : Ybaf.prog.bytesOf 5 = 1 := by kernel_rfl

set_option maxRecDepth 100000 in
theorem merge_lifted (os : Os) (started : os.Started) (H : Type) (enc : TypeId × Value → H) :
    ReturnsInTold Option.none {} Ybaf.checked os 7 .any Input.okWide ((OpenSpec.ofChange Rows.lawS0681CMergeSpec).preRow enc Ybaf.prog Ybaf.f7 Rows.lawS0681CMergeRow.domain false Rows.lawS0681CMergeRow.laid) (fun F => ((OpenSpec.ofChange Rows.lawS0681CMergeSpec).at F).post enc Ybaf.prog Ybaf.f7 false true false false) (aloneAtReturn Ybaf.prog) nothingAlways := by
  refine returnsInTold_of_row (C := Ybaf.checked) (s := OpenSpec.ofChange Rows.lawS0681CMergeSpec) (by kernel_rfl) own started (by kernel_rfl) Ybaf.func7
    (OpenSpec.witness_stopped (enc := enc) (C := Ybaf.checked) false ⟨#[], #[.slice none 0 0, .slice none 0 0, .bool false, .bool false, .slice none 0 0, .slice none 0 0], []⟩ 8 (by kernel_rfl) (by kernel_rfl) (by kernel_rfl) (by kernel_rfl)) ?_
  intro F W base args ds gs before _ hF hval0 hW _ _ hsz0 _ _
  have hval : ∀ (j : Nat) t v, Ybaf.f7.params[j]? = some t → args[j]? = some v → Value.okWide Ybaf.prog W .any base t v := hval0
  have hW' := hW
  obtain ⟨p, q, hA0, hV, rfl, _, _⟩ := hW
  have hA : DataW.TrodAll enc Ybaf.prog W 0 (fun _ => true) true Ybaf.f7.params.toList args.toList ds p := hA0
  have hsz : (DataW.weightsEach Ybaf.prog (Ybaf.f7.params.toList ++ []) (ds ++ gs)).all (· ≤ reachBytes) = true := hsz0
  rw [Ybaf.params7] at hA hval hsz
  obtain ⟨v0, vs0, d0, ds0, p0, q0, hargs, rfl, rfl, h0, r0⟩ := trodAll_cons hA
  obtain ⟨v1, vs1, d1, ds1, p1, q1, rfl, rfl, rfl, h1, r1⟩ := trodAll_cons r0
  obtain ⟨v2, vs2, d2, ds2, p2, q2, rfl, rfl, rfl, h2, r2⟩ := trodAll_cons r1
  obtain ⟨v3, vs3, d3, ds3, p3, q3, rfl, rfl, rfl, h3, r3⟩ := trodAll_cons r2
  obtain ⟨v4, vs4, d4, ds4, p4, q4, rfl, rfl, rfl, h4, r4⟩ := trodAll_cons r3
  obtain ⟨v5, vs5, d5, ds5, p5, q5, rfl, rfl, rfl, h5, r5⟩ := trodAll_cons r4
  obtain ⟨rfl, rfl, rfl⟩ := trodAll_nil r5
  obtain rfl : args = #[v0, v1, v2, v3, v4, v5] := by cases args; simp_all
  obtain ⟨rfl, rfl⟩ := trodVars_none hV
  obtain ⟨a0, n0, c0, rfl⟩ := okWide_slice Ybaf.underlying70 (hval 0 70 v0 rfl rfl)
  obtain ⟨a1, n1, c1, rfl⟩ := okWide_slice Ybaf.underlying70 (hval 1 70 v1 rfl rfl)
  obtain ⟨b2, rfl, rfl, rfl⟩ := open_bool Ybaf.underlying4 (hval 2 4 v2 rfl rfl) h2
  obtain ⟨b3, rfl, rfl, rfl⟩ := open_bool Ybaf.underlying4 (hval 3 4 v3 rfl rfl) h3
  obtain ⟨a4, n4, c4, rfl⟩ := okWide_slice Ybaf.underlying22 (hval 4 22 v4 rfl rfl)
  obtain ⟨a5, n5, c5, rfl⟩ := okWide_slice Ybaf.underlying22 (hval 5 22 v5 rfl rfl)
  have k0 := h0
  have k1 := h1
  have k4 := h4
  have k5 := h5
  obtain ⟨f0, e0⟩ := h0
  obtain ⟨f1, e1⟩ := h1
  obtain ⟨f4, e4⟩ := h4
  obtain ⟨f5, e5⟩ := h5
  have lt0 : ∀ x ∈ p0, x.block < W.heap.size := DataW.trod_lt f0 _ _ _ e0
  have lt1 : ∀ x ∈ p1, x.block < W.heap.size := DataW.trod_lt f1 _ _ _ e1
  have lt4 : ∀ x ∈ p4, x.block < W.heap.size := DataW.trod_lt f4 _ _ _ e4
  have lt5 : ∀ x ∈ p5, x.block < W.heap.size := DataW.trod_lt f5 _ _ _ e5
  have wz : ∀ n ∈ DataW.weightsEach Ybaf.prog ([70, 70, 4, 4, 22, 22] ++ []) ([d0, d1, .lit (.bool b2), .lit (.bool b3), d4, d5] ++ []), n ≤ 140737488351232 := fun n hn => of_decide_eq_true (List.all_eq_true.1 hsz n hn)
  simp only [List.append_nil, DataW.weightsEach, List.mem_append] at wz
  obtain ⟨PP, sP, tP, lP, _⟩ := segs_in (by simpa [Value.cells] using e0) (fun n hn => wz n (.inl hn))
  obtain ⟨AA, sA, tA, lA, nA⟩ := segs_in (by simpa [Value.cells] using e1) (fun n hn => wz n (.inr (.inl hn)))
  obtain ⟨ag, gN, gW, gB⟩ := nums_in (v := .slice a4 n4 c4) Ybaf.underlying22 Ybaf.underlying5 (by kernel_rfl) (by simpa [Value.cells] using e4)
  obtain ⟨ah, hN, _, hB⟩ := nums_in (v := .slice a5 n5 c5) Ybaf.underlying22 Ybaf.underlying5 (by kernel_rfl) (by simpa [Value.cells] using e5)
  have lg := gB 140737488351232 (fun n hn => wz n (.inr (.inr (.inr (.inr (.inl hn))))))
  have lh := hB 140737488351232 (fun n hn => wz n (.inr (.inr (.inr (.inr (.inr hn))))))
  rw [bytes5] at lg lh
  clear hA0 hval0 hsz0
  refine (law_walk (.slice a0 n0 c0) (.slice a1 n1 c1) (.slice a4 n4 c4) (.slice a5 n5 c5) b2 b3 PP AA ag ah W sP sA gN hN tP tA lP lA nA (fun i => by have := range_u8 gW i; simpa using this) (by omega) (by omega)).mono fun e W' ⟨he, bel⟩ => ?_
  subst he
  simp only [List.append_nil] at hW'
  exact ⟨_, rfl, _, _, _, [], _, [], hW', trodAll_mk1 (shut_bool Ybaf.underlying4 _),
    (trodAll_cons_mk (Below.trod laidOut (by kernel_rfl) (of_decide_eq_true (by kernel_rfl)) k0 bel lt0) (trodAll_cons_mk (Below.trod laidOut (by kernel_rfl) (of_decide_eq_true (by kernel_rfl)) k1 bel lt1) (trodAll_cons_mk (shut_bool Ybaf.underlying4 _) (trodAll_cons_mk (shut_bool Ybaf.underlying4 _) (trodAll_cons_mk (Below.trod laidOut (by kernel_rfl) (of_decide_eq_true (by kernel_rfl)) k4 bel lt4) (trodAll_cons_mk (Below.trod laidOut (by kernel_rfl) (of_decide_eq_true (by kernel_rfl)) k5 bel lt5) trodAll_mk0)))))),
    rfl, bel.frame _, fun h => by cases h⟩

/-- THE STATEMENT. -/
theorem lawS0681CMerge_told : Rows.LawS0681CMergeToldSaid :=
  Claim7.holds_of_told_any 7 Ybaf.f7 (Rows.lawS0681CMergeRow.stops.headD "") Rows.lawS0681CMergeRow.stops.tail [] _ _ _ (by kernel_rfl) rfl rfl rfl laidOut (by kernel_rfl) rfl ⟨rfl, rfl, rfl, rfl, rfl, rfl, rfl⟩ rfl rfl (by kernel_rfl) (by kernel_rfl) Ybaf.func7 (by kernel_rfl)
    (of_decide_eq_true (by kernel_rfl)) (by unfold Func.isWrapper; first | (rw [if_pos (by decide +kernel)]; kernel_rfl) | (rw [if_neg (by decide +kernel)]; exact ⟨rfl, rfl⟩)) stopsAre.symm rfl knobsAre.symm (by kernel_rfl)
    (by kernel_rfl) (by kernel_rfl) (by kernel_rfl) (by kernel_rfl) (by kernel_rfl) (by kernel_rfl) (by kernel_rfl) (by kernel_rfl) (by kernel_rfl) rfl (by kernel_rfl) rfl rfl
    rfl rfl
    rfl (by kernel_rfl) (by kernel_rfl) (by kernel_rfl) (by decide) (by kernel_rfl)
    (OpenClaim.moreEntering_of (by kernel_rfl) (by kernel_rfl) (by kernel_rfl) (by kernel_rfl) (by kernel_rfl) (by kernel_rfl) (by kernel_rfl) (by kernel_rfl) (by kernel_rfl) (by kernel_rfl))
    ⟨_, WideRow.started_initial, quietAt _⟩
    (fun os started _ H enc _ => merge_lifted os started H enc)
end Go.Proofs.YbulknbsFmt
