/-
  THE PROOF of 'Rows.LawS0681BFramedToldSaid': the told and tied card.
-/
import Derived.Test.YbulknbsFmtFrame
namespace Go.Proofs.YbulknbsFmt
open Go.ChangeShapes Go.WideShapes Go.ChangeAt Go.RowKit Go.Kit
open Go.Extern.Stop Go.Stop Go.Extern

/-- a nil slice has no room -/
theorem nil_of {H : Type} {enc : TypeId × Value → H} {W : World} {a0 : Option Addr} {len cap fuel : Nat} {x : DataW H × List MemPlace} (h : DataW.trod enc Ybaf.prog W 0 (fun _ => true) true fuel 22 (Value.slice a0 len cap).cells.toList = some x) : a0 = none → len = 0 ∧ cap = 0 := by
  rintro rfl
  rcases open_ints Ybaf.underlying22 Ybaf.underlying5 (by kernel_rfl) h with ⟨hcs, _⟩ | ⟨x, l, c, zs, hcs, _⟩
  · simp [Value.cells] at hcs
    exact hcs
  · simp [Value.cells] at hcs

set_option maxRecDepth 100000 in
theorem framed_witness_row (os : Os) {H : Type} (enc : TypeId × Value → H) :
    (OpenSpec.ofChange Rows.lawS0681BFramedSpec).preRow enc Ybaf.prog Ybaf.f6 Rows.lawS0681BFramedRow.domain false Rows.lawS0681BFramedRow.laid ((laidOver (World.holding Ybaf.prog os ⟨#[names], #[], []⟩)).forCall (fun _ _ => 0) ⟨#[], #[.slice none 0 0, .int .u8 0, .int .u8 0, .int .u16 0, .int .u8 0, .int .u8 0], []⟩).memory #[.slice none 0 0, .int .u8 0, .int .u8 0, .int .u16 0, .int .u8 0, .int .u8 0] := by
  have hw : (DataW.whole enc Ybaf.prog ((laidOver (World.holding Ybaf.prog os ⟨#[names], #[], []⟩)).forCall (fun _ _ => 0) ⟨#[], #[.slice none 0 0, .int .u8 0, .int .u8 0, .int .u16 0, .int .u8 0, .int .u8 0], []⟩).memory Ybaf.f6.params.toList (OpenSpec.ofChange Rows.lawS0681BFramedSpec).vars false #[.slice none 0 0, .int .u8 0, .int .u8 0, .int .u16 0, .int .u8 0, .int .u8 0].toList 8).map (fun x => (x.1, x.2.1)) =
      some ([.nil, .lit (.int .u8 0), .lit (.int .u8 0), .lit (.int .u16 0), .lit (.int .u8 0), .lit (.int .u8 0)], [Rows.laid_example_com_ribscope_ribscope_bmp_bgpTypeNames]) := by kernel_rfl
  obtain ⟨⟨x1, x2, x3⟩, hx, hx1⟩ := Option.map_eq_some_iff.1 hw
  simp only [Prod.mk.injEq] at hx1
  obtain ⟨rfl, rfl⟩ := hx1
  exact OpenSpec.preRow_of_cond 8 hx (by kernel_rfl) (fun k hk => by cases hk) (by kernel_rfl) (laid_met os _)

set_option maxRecDepth 100000 in
theorem framed_lifted (os : Os) (started : os.Started) (H : Type) (enc : TypeId × Value → H) :
    ReturnsInTold Option.none {} Ybaf.checked os 6 .any Input.okWide ((OpenSpec.ofChange Rows.lawS0681BFramedSpec).preRow enc Ybaf.prog Ybaf.f6 Rows.lawS0681BFramedRow.domain false Rows.lawS0681BFramedRow.laid) (fun F => ((OpenSpec.ofChange Rows.lawS0681BFramedSpec).at F).post enc Ybaf.prog Ybaf.f6 false true false false) (aloneAtReturn Ybaf.prog) nothingAlways := by
  refine returnsInTold_of_row (C := Ybaf.checked) (s := OpenSpec.ofChange Rows.lawS0681BFramedSpec) (by kernel_rfl) own started (by kernel_rfl) Ybaf.func6
    (OpenSpec.witness_stopped_atRef (enc := enc) (C := Ybaf.checked) false (laidOver (World.holding Ybaf.prog os ⟨#[names], #[], []⟩)) #[.slice none 0 0, .int .u8 0, .int .u8 0, .int .u16 0, .int .u8 0, .int .u8 0] rfl (by kernel_rfl) (by kernel_rfl) (by kernel_rfl) (framed_witness_row os enc)) ?_
  intro F W base args ds gs before _ hF hval0 hW _ _ _ hL _
  have hval : ∀ (j : Nat) t v, Ybaf.f6.params[j]? = some t → args[j]? = some v → Value.okWide Ybaf.prog W .any base t v := hval0
  have hW' := hW
  obtain ⟨p, q, hA0, hV0, rfl, hfz, hnd⟩ := hW
  have hA : DataW.TrodAll enc Ybaf.prog W 0 (fun _ => true) true Ybaf.f6.params.toList args.toList ds p := hA0
  have hV : DataW.TrodVars enc Ybaf.prog W (fun _ => true) [gnm] gs q := hV0
  rw [Ybaf.params6] at hA hval
  obtain ⟨v0, vs0, d0, ds0, p0, q0, hargs, rfl, rfl, h0, r0⟩ := trodAll_cons hA
  obtain ⟨v1, vs1, d1, ds1, p1, q1, rfl, rfl, rfl, h1, r1⟩ := trodAll_cons r0
  obtain ⟨v2, vs2, d2, ds2, p2, q2, rfl, rfl, rfl, h2, r2⟩ := trodAll_cons r1
  obtain ⟨v3, vs3, d3, ds3, p3, q3, rfl, rfl, rfl, h3, r3⟩ := trodAll_cons r2
  obtain ⟨v4, vs4, d4, ds4, p4, q4, rfl, rfl, rfl, h4, r4⟩ := trodAll_cons r3
  obtain ⟨v5, vs5, d5, ds5, p5, q5, rfl, rfl, rfl, h5, r5⟩ := trodAll_cons r4
  obtain ⟨rfl, rfl, rfl⟩ := trodAll_nil r5
  obtain rfl : args = #[v0, v1, v2, v3, v4, v5] := by cases args; simp_all
  obtain ⟨g, t, cs, fuel, d, p', rfl, hg, ht, hvar, hd, rfl⟩ := trodVars_one hV
  obtain rfl := Option.some.inj (gName.symm.trans hg)
  obtain rfl := Option.some.inj (gType.symm.trans ht)
  obtain ⟨r, hcs, hmap⟩ := map_of hd
  obtain rfl : cs = #[.map r] := by cases cs; simp_all
  have hcell : W.cell? ⟨2, 0, Option.none⟩ = some (.map r) := by simpa using World.var?_cell hg hvar 0
  obtain ⟨a0, len0, cap0, rfl⟩ := okWide_slice Ybaf.underlying22 (hval 0 22 v0 rfl rfl)
  have k0 := h0
  have lt0 : ∀ x ∈ p0, x.block < W.heap.size := by obtain ⟨m, hm⟩ := k0; exact DataW.trod_lt m _ _ _ hm
  obtain ⟨fuel0, hf⟩ := h0
  obtain ⟨zs, hlc, hz, hdat⟩ := data_of hf
  have hno := nil_of hf
  obtain ⟨a1, rfl, rfl, rfl, w1⟩ := open_int Ybaf.underlying5 (hval 1 5 v1 rfl rfl) h1
  obtain ⟨a2, rfl, rfl, rfl, w2⟩ := open_int Ybaf.underlying5 (hval 2 5 v2 rfl rfl) h2
  obtain ⟨a3, rfl, rfl, rfl, w3⟩ := open_int Ybaf.underlying68 (hval 3 68 v3 rfl rfl) h3
  obtain ⟨a4, rfl, rfl, rfl, w4⟩ := open_int Ybaf.underlying5 (hval 4 5 v4 rfl rfl) h4
  obtain ⟨a5, rfl, rfl, rfl, w5⟩ := open_int Ybaf.underlying5 (hval 5 5 v5 rfl rfl) h5
  clear hA0 hV0 hval0
  have walk : Calls Ybaf.prog 6 #[.slice a0 len0 cap0, .int .u8 a1, .int .u8 a2, .int .u16 a3, .int .u8 a4, .int .u8 a5] W fun e w' => e = .returned (.bool true) ∧ Below W.heap.size W w' := by
    by_cases hgt : 1024 < len0
    · exact framed_long a0 len0 cap0 a1 a2 a3 a4 a5 W hgt
    · exact framed_walk a0 len0 cap0 a1 a2 a3 a4 a5 zs r W (by omega) hcell hmap hno hz (bounds_u8 w1) (bounds_u8 w2) (bounds_u16 w3) (bounds_u8 w4) (bounds_u8 w5) hdat
  refine walk.mono fun e W' ⟨he, bel⟩ => ?_
  subst he
  have hvar' : W'.var? Ybaf.prog gnm = some #[.map r] := var?_below bel gName (World.block_lt_of_cell? _ _ hcell) hvar
  have kv : DataW.Trod enc Ybaf.prog W 0 (fun _ => true) true 117 (.agg #[.map r]) d p' := ⟨fuel, hd⟩
  have ltv : ∀ x ∈ p', x.block < W.heap.size := DataW.trod_lt fuel _ _ _ hd
  obtain ⟨fuel2, hd2⟩ := Below.trod laidOut (by kernel_rfl) (of_decide_eq_true (by kernel_rfl)) kv bel ltv
  exact ⟨_, rfl, _, _, _, [], _, _, hW', trodAll_mk1 (shut_bool Ybaf.underlying4 _),
    (trodAll_cons_mk (Below.trod laidOut (by kernel_rfl) (of_decide_eq_true (by kernel_rfl)) k0 bel lt0) (trodAll_cons_mk (shut_int Ybaf.underlying5 w1) (trodAll_cons_mk (shut_int Ybaf.underlying5 w2) (trodAll_cons_mk (shut_int Ybaf.underlying68 w3) (trodAll_cons_mk (shut_int Ybaf.underlying5 w4) (trodAll_cons_mk (shut_int Ybaf.underlying5 w5) trodAll_mk0)))))),
    trodVars_mk1 gName gType hvar' hd2, bel.frame _, fun h => by cases h⟩

/-- THE STATEMENT. -/
theorem lawS0681BFramed_told : Rows.LawS0681BFramedToldSaid :=
  Claim7.holds_of_told_tied_any_at .later 6 Ybaf.f6 (Rows.lawS0681BFramedRow.stops.headD "") Rows.lawS0681BFramedRow.stops.tail [] _ _ _ _ _ (by kernel_rfl) rfl rfl rfl laidOut (by kernel_rfl) rfl ⟨rfl, rfl, rfl, rfl, rfl, rfl, rfl⟩ rfl rfl (by kernel_rfl) (by kernel_rfl) Ybaf.func6 (by kernel_rfl)
    (of_decide_eq_true (by kernel_rfl)) (by unfold Func.isWrapper; first | (rw [if_pos (by decide +kernel)]; kernel_rfl) | (rw [if_neg (by decide +kernel)]; exact ⟨rfl, rfl⟩)) stopsAre.symm rfl knobsAre.symm (by kernel_rfl)
    (by kernel_rfl) (by kernel_rfl) (by kernel_rfl) (by kernel_rfl) (by kernel_rfl) (by kernel_rfl) (by kernel_rfl) (by kernel_rfl) (by kernel_rfl) rfl (by kernel_rfl) rfl rfl
    rfl rfl
    rfl (by kernel_rfl) (by kernel_rfl) (by kernel_rfl) (by decide) (by kernel_rfl) lawS0681BFramed_row_tie
    (OpenClaim.moreEntering_of (by kernel_rfl) (by kernel_rfl) (by kernel_rfl) (by kernel_rfl) (by kernel_rfl) (by kernel_rfl) (by kernel_rfl) (by kernel_rfl) (by kernel_rfl) (by kernel_rfl))
    ⟨_, WideRow.started_initial, quietAt _⟩
    (fun os started _ H enc _ => framed_lifted os started H enc)
end Go.Proofs.YbulknbsFmt
