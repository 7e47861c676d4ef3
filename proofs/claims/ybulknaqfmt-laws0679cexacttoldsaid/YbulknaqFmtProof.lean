/-
  THE PROOF of 'Rows.LawS0679CExactToldSaid': the told and tied card.
-/
import Derived.Test.YbulknaqFmtWalk
import Derived.Test.YbulknaqFmtTie
import Derived.Test.YbulknaqFmtCards
import Derived.ProofKit
import Derived.OpenShut
import Derived.ChangeVars
import Derived.LaidLaws
import Derived.Stop.JoinedAt
import Derived.Stop.JoinedTold
import Derived.SevenTiedAt
namespace Go.Proofs.YbulknaqFmt
open Go.ChangeShapes Go.WideShapes Go.ChangeAt Go.RowKit Go.Kit
open Go.Extern.Stop Go.Stop Go.Extern

theorem own : ownKnob Ybaf.prog.godebug = Option.none := by kernel_rfl
theorem laidOut : laidOutB Ybaf.pinned.checked.prog = true := by kernel_rfl
/-- the variable's name, as the row gives it -/
def gnm : String := Rows.lawS0679CExactSpec.vars.headD ""
theorem gName : Ybaf.prog.globalNamed gnm = some 0 := by kernel_rfl
theorem gType : (Ybaf.prog.globals[0]?).map (·.type) = some 46 := by kernel_rfl
theorem cells9 : Ybaf.prog.cellsOf 9 = 1 := by kernel_rfl
theorem cells46 : Ybaf.prog.cellsOf 46 = 9 := by kernel_rfl

/-- an array of nine strings, read: each of its cells is a string -/
theorem strs_of {H : Type} {enc : TypeId × Value → H} {w : World} {base : Nat} {sp : Nat → Bool} {held : Bool} {fuel : Nat} {cs : List Value} {x : DataW H × List MemPlace}
    (h : DataW.trod enc Ybaf.prog w base sp held fuel 46 cs = some x) (i : Nat) (hi : i < 9) : ∃ t, cs[i]? = some (.string t) := by
  obtain ⟨xs, m, _, _, hlen, _, hall⟩ := DataW.trod_array Ybaf.underlying46 h
  have h1 := hall i hi
  rw [cells9] at h1
  cases hx : xs[i]? with
  | none => 
    rw [List.getElem?_eq_none_iff] at hx
    omega
  | some y =>
    rw [hx] at h1
    obtain ⟨t, ht, _, _⟩ := DataW.trod_string Ybaf.underlying9 h1
    refine ⟨t, ?_⟩
    have := congrArg (·[0]?) ht
    simpa [List.getElem?_take, List.getElem?_drop] using this

/-- the world of the witness: the variable holds what the row lists -/
def laidOver (w : World) : World :=
  { w with heap := w.heap.modify 0 fun
      | .cells _ t frozen => .cells #[.string ⟨#[116, 121, 112, 101]⟩, .string ⟨#[102, 117, 110, 99, 116, 105, 111, 110]⟩, .string ⟨#[116, 97, 98, 108, 101]⟩, .string ⟨#[109, 101, 109, 111, 114, 121]⟩, .string ⟨#[103, 108, 111, 98, 97, 108]⟩, .string ⟨#[101, 108, 101, 109, 32, 115, 101, 103, 109, 101, 110, 116]⟩, .string ⟨#[100, 97, 116, 97, 32, 115, 101, 103, 109, 101, 110, 116]⟩, .string ⟨#[108, 111, 99, 97, 108]⟩, .string ⟨#[108, 97, 98, 101, 108]⟩] t frozen
      | o => o }

set_option maxRecDepth 100000 in
theorem laid_met (os : Os) (args : Array Value) : laidMet Ybaf.prog Rows.lawS0679CExactRow.laid ((laidOver (World.holding Ybaf.prog os ⟨#[], #[], []⟩)).forCall (fun _ _ => 0) ⟨#[], args, []⟩).memory :=
  laidMet_of_run' 8 (by kernel_rfl) (by kernel_rfl)

set_option maxRecDepth 100000 in
theorem witness_row (os : Os) {H : Type} (enc : TypeId × Value → H) :
    (OpenSpec.ofChange Rows.lawS0679CExactSpec).preRow enc Ybaf.prog Ybaf.f3 Rows.lawS0679CExactRow.domain false Rows.lawS0679CExactRow.laid ((laidOver (World.holding Ybaf.prog os ⟨#[], #[], []⟩)).forCall (fun _ _ => 0) ⟨#[], #[.int .i64 0, .int .u32 0, .int .i64 0, .int .u64 0, .int .u8 0], []⟩).memory #[.int .i64 0, .int .u32 0, .int .i64 0, .int .u64 0, .int .u8 0] := by
  have hw : (DataW.whole enc Ybaf.prog ((laidOver (World.holding Ybaf.prog os ⟨#[], #[], []⟩)).forCall (fun _ _ => 0) ⟨#[], #[.int .i64 0, .int .u32 0, .int .i64 0, .int .u64 0, .int .u8 0], []⟩).memory Ybaf.f3.params.toList (OpenSpec.ofChange Rows.lawS0679CExactSpec).vars false #[.int .i64 0, .int .u32 0, .int .i64 0, .int .u64 0, .int .u8 0].toList 8).map (fun x => (x.1, x.2.1)) =
      some ([.lit (.int .i64 0), .lit (.int .u32 0), .lit (.int .i64 0), .lit (.int .u64 0), .lit (.int .u8 0)], [Rows.laid_example_com_lamina_lamina_spaceNames]) := by kernel_rfl
  obtain ⟨⟨x1, x2, x3⟩, hx, hx1⟩ := Option.map_eq_some_iff.1 hw
  simp only [Prod.mk.injEq] at hx1
  obtain ⟨rfl, rfl⟩ := hx1
  exact OpenSpec.preRow_of_cond 8 hx (by kernel_rfl) (fun k hk => by cases hk) (by kernel_rfl) (laid_met os _)

set_option maxRecDepth 100000 in
theorem lifted (os : Os) (started : os.Started) (H : Type) (enc : TypeId × Value → H) :
    ReturnsInTold Option.none {} Ybaf.checked os 3 .any Input.okWide ((OpenSpec.ofChange Rows.lawS0679CExactSpec).preRow enc Ybaf.prog Ybaf.f3 Rows.lawS0679CExactRow.domain false Rows.lawS0679CExactRow.laid) (fun F => ((OpenSpec.ofChange Rows.lawS0679CExactSpec).at F).post enc Ybaf.prog Ybaf.f3 false true false false) (aloneAtReturn Ybaf.prog) nothingAlways := by
  refine returnsInTold_of_row (C := Ybaf.checked) (s := OpenSpec.ofChange Rows.lawS0679CExactSpec) (by kernel_rfl) own started (by kernel_rfl) Ybaf.func3
    (OpenSpec.witness_stopped_at (enc := enc) (C := Ybaf.checked) false (laidOver (World.holding Ybaf.prog os ⟨#[], #[], []⟩)) #[.int .i64 0, .int .u32 0, .int .i64 0, .int .u64 0, .int .u8 0] rfl (by kernel_rfl) (by kernel_rfl) (by kernel_rfl) (witness_row os enc)) ?_
  intro F W base args ds gs before _ hF hval0 hW _ _ _ hL _
  have hval : ∀ (j : Nat) t v, Ybaf.f3.params[j]? = some t → args[j]? = some v → Value.okWide Ybaf.prog W .any base t v := hval0
  have hW' := hW
  obtain ⟨p, q, hA0, hV0, rfl, hfz, hnd⟩ := hW
  have hA : DataW.TrodAll enc Ybaf.prog W 0 (fun _ => true) true Ybaf.f3.params.toList args.toList ds p := hA0
  have hV : DataW.TrodVars enc Ybaf.prog W (fun _ => true) [gnm] gs q := hV0
  rw [Ybaf.params3] at hA hval
  obtain ⟨v0, vs0, d0, ds0, p0, q0, hargs, rfl, rfl, h0, r0⟩ := trodAll_cons hA
  obtain ⟨v1, vs1, d1, ds1, p1, q1, rfl, rfl, rfl, h1, r1⟩ := trodAll_cons r0
  obtain ⟨v2, vs2, d2, ds2, p2, q2, rfl, rfl, rfl, h2, r2⟩ := trodAll_cons r1
  obtain ⟨v3, vs3, d3, ds3, p3, q3, rfl, rfl, rfl, h3, r3⟩ := trodAll_cons r2
  obtain ⟨v4, vs4, d4, ds4, p4, q4, rfl, rfl, rfl, h4, r4⟩ := trodAll_cons r3
  obtain ⟨rfl, rfl, rfl⟩ := trodAll_nil r4
  obtain rfl : args = #[v0, v1, v2, v3, v4] := by cases args; simp_all
  obtain ⟨g, t, cs, fuel, d, p', rfl, hg, ht, hvar, hd, rfl⟩ := trodVars_one hV
  obtain rfl := Option.some.inj (gName.symm.trans hg)
  obtain rfl := Option.some.inj (gType.symm.trans ht)
  obtain ⟨a0, rfl, rfl, rfl, w0⟩ := open_int Ybaf.underlying2 (hval 0 2 v0 rfl rfl) h0
  obtain ⟨a1, rfl, rfl, rfl, w1⟩ := open_int Ybaf.underlying22 (hval 1 22 v1 rfl rfl) h1
  obtain ⟨a2, rfl, rfl, rfl, w2⟩ := open_int Ybaf.underlying2 (hval 2 2 v2 rfl rfl) h2
  obtain ⟨a3, rfl, rfl, rfl, w3⟩ := open_int Ybaf.underlying23 (hval 3 23 v3 rfl rfl) h3
  obtain ⟨a4, rfl, rfl, rfl, w4⟩ := open_int Ybaf.underlying5 (hval 4 5 v4 rfl rfl) h4
  clear hA0 hV0 hval0
  have hcell : ∀ i, i < 9 → ∃ t, W.cell? ⟨0, i, Option.none⟩ = some (.string t) := fun i hi => by
    obtain ⟨t, ht⟩ := strs_of hd i hi
    exact ⟨t, by rw [World.var?_cell hg hvar i]; simpa using ht⟩
  obtain ⟨s, rfl⟩ := Int.eq_ofNat_of_zero_le (bounds_u8 w4).1
  have hs : s ≤ 255 := by have := (bounds_u8 w4).2; omega
  have walk : Calls Ybaf.prog 3 #[.int .i64 a0, .int .u32 a1, .int .i64 a2, .int .u64 a3, .int .u8 s] W fun e w' => e = .returned (.bool true) ∧ Below W.heap.size W w' := by
    by_cases c1 : a1 ≤ a2
    · exact exact_order a0 a1 a2 a3 s W (bounds_u32 w1) hs c1
    · by_cases c2 : a1 < a3
      · exact exact_nil a0 a1 a2 a3 s W (bounds_u32 w1) hs c1 c2
      · exact exact_unknown a0 a1 a2 a3 s W hcell (bounds_u32 w1) hs c1 c2
  refine walk.mono fun e W' ⟨he, bel⟩ => ?_
  subst he
  have hvar' : W'.var? Ybaf.prog gnm = some cs := var?_below bel gName (by obtain ⟨t, ht⟩ := hcell 0 (by decide); exact World.block_lt_of_cell? _ _ ht) hvar
  have k0 : DataW.Trod enc Ybaf.prog W 0 (fun _ => true) true 46 (.agg cs) d p' := ⟨fuel, hd⟩
  have lt0 : ∀ x ∈ p', x.block < W.heap.size := DataW.trod_lt fuel _ _ _ hd
  obtain ⟨fuel2, hd2⟩ := Below.trod laidOut (by kernel_rfl) (of_decide_eq_true (by kernel_rfl)) k0 bel lt0
  exact ⟨_, rfl, _, _, _, [], _, _, hW', trodAll_mk1 (shut_bool Ybaf.underlying4 _),
    (trodAll_cons_mk (shut_int Ybaf.underlying2 w0) (trodAll_cons_mk (shut_int Ybaf.underlying22 w1) (trodAll_cons_mk (shut_int Ybaf.underlying2 w2) (trodAll_cons_mk (shut_int Ybaf.underlying23 w3) (trodAll_cons_mk (shut_int Ybaf.underlying5 w4) trodAll_mk0))))),
    trodVars_mk1 gName gType hvar' hd2, bel.frame _, fun h => by cases h⟩

theorem stopsAre : Ybaf.pinned.checked.prog.stops = ["fmt.Sprintf"] := by kernel_rfl
theorem knobsAre : Ybaf.pinned.checked.prog.stopKnobs = [] := by kernel_rfl
theorem quietAt (os : Os) : Stop.quiet Ybaf.pinned.checked.prog os := by
  intro k hk
  rw [knobsAre] at hk
  cases hk

/-- THE STATEMENT. -/
theorem lawS0679CExact_told : Rows.LawS0679CExactToldSaid :=
  Claim7.holds_of_told_tied_any_at .later 3 Ybaf.f3 "fmt.Sprintf" [] [] _ _ _ _ _ (by kernel_rfl) rfl rfl rfl laidOut (by kernel_rfl) rfl ⟨rfl, rfl, rfl, rfl, rfl, rfl, rfl⟩ rfl rfl (by kernel_rfl) (by kernel_rfl) Ybaf.func3 (by kernel_rfl)
    (of_decide_eq_true (by kernel_rfl)) (by unfold Func.isWrapper; first | (rw [if_pos (by decide +kernel)]; kernel_rfl) | (rw [if_neg (by decide +kernel)]; exact ⟨rfl, rfl⟩)) stopsAre.symm rfl knobsAre.symm (by kernel_rfl)
    (by kernel_rfl) (by kernel_rfl) (by kernel_rfl) (by kernel_rfl) (by kernel_rfl) (by kernel_rfl) (by kernel_rfl) (by kernel_rfl) (by kernel_rfl) rfl (by kernel_rfl) rfl rfl
    rfl rfl
    rfl (by kernel_rfl) (by kernel_rfl) (by kernel_rfl) (by decide) (by kernel_rfl) lawS0679CExact_row_tie
    (OpenClaim.moreEntering_of (by kernel_rfl) (by kernel_rfl) (by kernel_rfl) (by kernel_rfl) (by kernel_rfl) (by kernel_rfl) (by kernel_rfl) (by kernel_rfl) (by kernel_rfl) (by kernel_rfl))
    ⟨_, WideRow.started_initial, quietAt _⟩
    (fun os started _ H enc _ => lifted os started H enc)

end Go.Proofs.YbulknaqFmt
