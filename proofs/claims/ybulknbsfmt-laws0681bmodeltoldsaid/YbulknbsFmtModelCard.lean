/-
  THE PROOF of 'Rows.LawS0681BModelToldSaid': the told and tied card.
-/
import Derived.Test.YbulknbsFmtLaid
namespace Go.Proofs.YbulknbsFmt
open Go.ChangeShapes Go.WideShapes Go.ChangeAt Go.RowKit Go.Kit
open Go.Extern.Stop Go.Stop Go.Extern

set_option maxRecDepth 100000 in
set_option maxHeartbeats 400000 in
theorem model_walk (a0 : Option Addr) (len cap : Nat) (want : Int) (r : Option Nat) (w : World) (hlc : len ≤ cap) (hg : w.cell? ⟨2, 0, none⟩ = some (.map r)) (hm : MapOK w r)
    (h : len < 19 ∨ ∃ b off zs, a0 = some ⟨b, off, none⟩ ∧ (∀ j : Nat, 0 ≤ zs[j]?.getD 0 ∧ zs[j]?.getD 0 ≤ 255) ∧ ∀ i, i < len → w.cell? ⟨b, off + i, none⟩ = some (.int .u8 (List.getD zs i 0))) :
    Calls Ybaf.prog 5 #[.slice a0 len cap, .int .u8 want] w fun e w' => e = .returned (.bool true) ∧ Below w.heap.size w w' := by
  by_cases hgt : 1048576 < len
  · have g1 : (1048576 : Int) < (len : Int) := by omega
    clear h hg hm hgt
    go_enter Ybaf.func5, Ybaf.ntmps5
    go_wp2
    go_ret
    exact ⟨rfl, Below.refl _ _⟩
  · have C := check_any a0 len cap want r w (by omega) hlc hg hm h
    have g1 : ¬ (1048576 : Int) < (len : Int) := by omega
    clear h hg hm hgt
    go_enter Ybaf.func5, Ybaf.ntmps5
    go_wp2_with fail
    refine C.mono ?_
    rintro e w2 ⟨rfl, B⟩
    go_wp2
    go_ret
    exact ⟨rfl, B⟩

set_option maxRecDepth 100000 in
theorem model_witness_row (os : Os) {H : Type} (enc : TypeId × Value → H) :
    (OpenSpec.ofChange Rows.lawS0681BModelSpec).preRow enc Ybaf.prog Ybaf.f5 Rows.lawS0681BModelRow.domain false Rows.lawS0681BModelRow.laid ((laidOver (World.holding Ybaf.prog os ⟨#[names], #[], []⟩)).forCall (fun _ _ => 0) ⟨#[], #[.slice none 0 0, .int .u8 0], []⟩).memory #[.slice none 0 0, .int .u8 0] := by
  have hw : (DataW.whole enc Ybaf.prog ((laidOver (World.holding Ybaf.prog os ⟨#[names], #[], []⟩)).forCall (fun _ _ => 0) ⟨#[], #[.slice none 0 0, .int .u8 0], []⟩).memory Ybaf.f5.params.toList (OpenSpec.ofChange Rows.lawS0681BModelSpec).vars false #[.slice none 0 0, .int .u8 0].toList 8).map (fun x => (x.1, x.2.1)) =
      some ([.nil, .lit (.int .u8 0)], [Rows.laid_example_com_ribscope_ribscope_bmp_bgpTypeNames]) := by kernel_rfl
  obtain ⟨⟨x1, x2, x3⟩, hx, hx1⟩ := Option.map_eq_some_iff.1 hw
  simp only [Prod.mk.injEq] at hx1
  obtain ⟨rfl, rfl⟩ := hx1
  exact OpenSpec.preRow_of_cond 8 hx (by kernel_rfl) (fun k hk => by cases hk) (by kernel_rfl) (laid_met os _)

set_option maxRecDepth 100000 in
theorem model_lifted (os : Os) (started : os.Started) (H : Type) (enc : TypeId × Value → H) :
    ReturnsInTold Option.none {} Ybaf.checked os 5 .any Input.okWide ((OpenSpec.ofChange Rows.lawS0681BModelSpec).preRow enc Ybaf.prog Ybaf.f5 Rows.lawS0681BModelRow.domain false Rows.lawS0681BModelRow.laid) (fun F => ((OpenSpec.ofChange Rows.lawS0681BModelSpec).at F).post enc Ybaf.prog Ybaf.f5 false true false false) (aloneAtReturn Ybaf.prog) nothingAlways := by
  refine returnsInTold_of_row (C := Ybaf.checked) (s := OpenSpec.ofChange Rows.lawS0681BModelSpec) (by kernel_rfl) own started (by kernel_rfl) Ybaf.func5
    (OpenSpec.witness_stopped_atRef (enc := enc) (C := Ybaf.checked) false (laidOver (World.holding Ybaf.prog os ⟨#[names], #[], []⟩)) #[.slice none 0 0, .int .u8 0] rfl (by kernel_rfl) (by kernel_rfl) (by kernel_rfl) (model_witness_row os enc)) ?_
  intro F W base args ds gs before _ hF hval0 hW _ _ _ hL _
  have hval : ∀ (j : Nat) t v, Ybaf.f5.params[j]? = some t → args[j]? = some v → Value.okWide Ybaf.prog W .any base t v := hval0
  have hW' := hW
  obtain ⟨p, q, hA0, hV0, rfl, hfz, hnd⟩ := hW
  have hA : DataW.TrodAll enc Ybaf.prog W 0 (fun _ => true) true Ybaf.f5.params.toList args.toList ds p := hA0
  have hV : DataW.TrodVars enc Ybaf.prog W (fun _ => true) [gnm] gs q := hV0
  rw [Ybaf.params5] at hA hval
  obtain ⟨v0, vs0, d0, ds0, p0, q0, hargs, rfl, rfl, h0, r0⟩ := trodAll_cons hA
  obtain ⟨v1, vs1, d1, ds1, p1, q1, rfl, rfl, rfl, h1, r1⟩ := trodAll_cons r0
  obtain ⟨rfl, rfl, rfl⟩ := trodAll_nil r1
  obtain rfl : args = #[v0, v1] := by cases args; simp_all
  obtain ⟨g, t, cs, fuel, d, p', rfl, hg, ht, hvar, hd, rfl⟩ := trodVars_one hV
  obtain rfl := Option.some.inj (gName.symm.trans hg)
  obtain rfl := Option.some.inj (gType.symm.trans ht)
  obtain ⟨r, hcs, hmap⟩ := map_of hd
  obtain rfl : cs = #[.map r] := by cases cs; simp_all
  have hcell : W.cell? ⟨2, 0, Option.none⟩ = some (.map r) := by simpa using World.var?_cell hg hvar 0
  obtain ⟨a0, len0, cap0, rfl⟩ := okWide_slice Ybaf.underlying22 (hval 0 22 v0 rfl rfl)
  have k0 := h0
  have lt0 : ∀ x ∈ p0, x.block < W.heap.size := by obtain ⟨m, hm⟩ := k0; exact DataW.trod_lt m _ _ _ hm
  obtain ⟨fuel0, hf⟩ := h0
  obtain ⟨zs, hlc, hz, hdat⟩ := data_of hf
  obtain ⟨a1, rfl, rfl, rfl, w1⟩ := open_int Ybaf.underlying5 (hval 1 5 v1 rfl rfl) h1
  clear hA0 hV0 hval0
  refine (model_walk a0 len0 cap0 a1 r W hlc hcell hmap ?_).mono fun e W' ⟨he, bel⟩ => ?_
  · by_cases h19 : len0 < 19
    · exact Or.inl h19
    · obtain ⟨b, off, ha, hc⟩ := hdat (by omega)
      exact Or.inr ⟨b, off, zs, ha, hz, hc⟩
  subst he
  have hvar' : W'.var? Ybaf.prog gnm = some #[.map r] := var?_below bel gName (World.block_lt_of_cell? _ _ hcell) hvar
  have kv : DataW.Trod enc Ybaf.prog W 0 (fun _ => true) true 117 (.agg #[.map r]) d p' := ⟨fuel, hd⟩
  have ltv : ∀ x ∈ p', x.block < W.heap.size := DataW.trod_lt fuel _ _ _ hd
  obtain ⟨fuel2, hd2⟩ := Below.trod laidOut (by kernel_rfl) (of_decide_eq_true (by kernel_rfl)) kv bel ltv
  exact ⟨_, rfl, _, _, _, [], _, _, hW', trodAll_mk1 (shut_bool Ybaf.underlying4 _),
    (trodAll_cons_mk (Below.trod laidOut (by kernel_rfl) (of_decide_eq_true (by kernel_rfl)) k0 bel lt0) (trodAll_cons_mk (shut_int Ybaf.underlying5 w1) trodAll_mk0)),
    trodVars_mk1 gName gType hvar' hd2, bel.frame _, fun h => by cases h⟩

/-- THE STATEMENT. -/
theorem lawS0681BModel_told : Rows.LawS0681BModelToldSaid :=
  Claim7.holds_of_told_tied_any_at .later 5 Ybaf.f5 (Rows.lawS0681BModelRow.stops.headD "") Rows.lawS0681BModelRow.stops.tail [] _ _ _ _ _ (by kernel_rfl) rfl rfl rfl laidOut (by kernel_rfl) rfl ⟨rfl, rfl, rfl, rfl, rfl, rfl, rfl⟩ rfl rfl (by kernel_rfl) (by kernel_rfl) Ybaf.func5 (by kernel_rfl)
    (of_decide_eq_true (by kernel_rfl)) (by unfold Func.isWrapper; first | (rw [if_pos (by decide +kernel)]; kernel_rfl) | (rw [if_neg (by decide +kernel)]; exact ⟨rfl, rfl⟩)) stopsAre.symm rfl knobsAre.symm (by kernel_rfl)
    (by kernel_rfl) (by kernel_rfl) (by kernel_rfl) (by kernel_rfl) (by kernel_rfl) (by kernel_rfl) (by kernel_rfl) (by kernel_rfl) (by kernel_rfl) rfl (by kernel_rfl) rfl rfl
    rfl rfl
    rfl (by kernel_rfl) (by kernel_rfl) (by kernel_rfl) (by decide) (by kernel_rfl) lawS0681BModel_row_tie
    (OpenClaim.moreEntering_of (by kernel_rfl) (by kernel_rfl) (by kernel_rfl) (by kernel_rfl) (by kernel_rfl) (by kernel_rfl) (by kernel_rfl) (by kernel_rfl) (by kernel_rfl) (by kernel_rfl))
    ⟨_, WideRow.started_initial, quietAt _⟩
    (fun os started _ H enc _ => model_lifted os started H enc)
end Go.Proofs.YbulknbsFmt
