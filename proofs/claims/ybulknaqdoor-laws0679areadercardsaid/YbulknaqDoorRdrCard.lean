/-
  THE PROOF of 'Rows.LawS0679AReaderCardSaid': the row, then the tied card.
-/
import Derived.Test.YbulknaqDoorLaid
namespace Go.Proofs.YbulknaqDoor
open Go.ChangeShapes Go.WideShapes Go.ChangeAt Go.RowKit

set_option maxRecDepth 100000 in
theorem rdr_walk (a0 : Option Addr) (len cap : Nat) (a1 ac a2 : Int) (zs : List Int) (a : Addr) (w : World) (hlc : len ≤ cap) (hz : ∀ j : Nat, 0 ≤ zs[j]?.getD 0 ∧ zs[j]?.getD 0 ≤ 255) (hd : DataAt w a0 len zs) (hE : w.cell? ⟨0, 0, none⟩ = some (.iface 78 (.pointer (some a)))) (w1 : (Lit.int .u8 a1).wf = true) (wc : (Lit.int .u8 ac).wf = true) :
    Calls Ybad.prog 4 #[.slice a0 len cap, .int .u8 a1, .int .u8 ac, .int .i64 a2] w fun e w' => e = .returned (.bool true) ∧ Below w.heap.size w w' := by
  by_cases hgt : 1024 < len
  · have g1 : (1024 : Int) < (len : Int) := by omega
    clear hd hz hE hgt
    go_enter Ybad.func4, Ybad.ntmps4
    go_wp2
    go_ret
    exact ⟨rfl, Below.refl _ _⟩
  · obtain ⟨n, rfl⟩ := Int.eq_ofNat_of_zero_le (bounds_u8 w1).1
    obtain ⟨c, rfl⟩ := Int.eq_ofNat_of_zero_le (bounds_u8 wc).1
    exact reader_any a0 len cap n c zs a2 a w (by omega) hlc hz (by have := (bounds_u8 w1).2; omega) (by have := (bounds_u8 wc).2; omega) hE hd

set_option maxRecDepth 100000 in
theorem rdr_lifted (os : Os) (started : os.Started) (H : Type) (enc : TypeId × Value → H) :
    ReturnsInHanded {} Ybad.checked os 4 .any (fun w args => (Rows.lawS0679AReaderSpec.pre enc Ybad.prog Ybad.f4 [] false w args ∧ laidMetH Ybad.prog Rows.lawS0679AReaderRow.laid w) ∧ sizedMet enc Ybad.prog Ybad.f4 (OpenSpec.ofChange Rows.lawS0679AReaderSpec) false w args)
      (Rows.lawS0679AReaderSpec.post enc Ybad.prog Ybad.f4 false true false false) := by
  refine returnsInHanded_of_change_and (C := Ybad.checked) (X := fun w _ => laidMetH Ybad.prog Rows.lawS0679AReaderRow.laid w) (fun _ _ _ hh h => h.of_heap hh) own started (by kernel_rfl) Ybad.func4
    (ChangeSpec.witness_at (enc := enc) (C := Ybad.checked) (os := os) (X := fun w _ => laidMetH Ybad.prog Rows.lawS0679AReaderRow.laid w) false (laidOver (World.holding Ybad.prog os ⟨#[errB eofS, errB nopS], #[], []⟩)) #[.slice none 0 0, .int .u8 0, .int .u8 0, .int .i64 0] 8 rfl (by kernel_rfl) (by kernel_rfl) (by kernel_rfl) (by kernel_rfl) (by kernel_rfl) (laid_met os _)) ?_
  intro W base args ds gs before hval0 hW _ _ hL0 _
  have hval : ∀ (j : Nat) t v, Ybad.f4.params[j]? = some t → args[j]? = some v → Value.okWide Ybad.prog W .any base t v := hval0
  have hL : laidMet Ybad.prog Rows.lawS0679AReaderRow.laid W := hL0
  have hW' := hW
  obtain ⟨p, q, hA0, hV, rfl, hfz, hnd⟩ := hW
  have hA : DataW.TrodAll enc Ybad.prog W 0 (fun _ => true) true Ybad.f4.params.toList args.toList ds p := hA0
  rw [Ybad.params4] at hA hval
  obtain ⟨v0, vs0, d0, ds0, p0, q0, hargs, rfl, rfl, h0, r0⟩ := trodAll_cons hA
  obtain ⟨v1, vs1, d1, ds1, p1, q1, rfl, rfl, rfl, h1, r1⟩ := trodAll_cons r0
  obtain ⟨v2, vs2, d2, ds2, p2, q2, rfl, rfl, rfl, h2, r2⟩ := trodAll_cons r1
  obtain ⟨v3, vs3, d3, ds3, p3, q3, rfl, rfl, rfl, h3, r3⟩ := trodAll_cons r2
  obtain ⟨rfl, rfl, rfl⟩ := trodAll_nil r3
  obtain rfl : args = #[v0, v1, v2, v3] := by cases args; simp_all
  obtain ⟨rfl, rfl⟩ := trodVars_none hV
  obtain ⟨a0, len0, cap0, rfl⟩ := okWide_slice Ybad.underlying22 (hval 0 22 v0 rfl rfl)
  have k0 := h0
  have lt0 : ∀ x ∈ p0, x.block < W.heap.size := by obtain ⟨m, hm⟩ := k0; exact DataW.trod_lt m _ _ _ hm
  obtain ⟨fuel, hf⟩ := h0
  obtain ⟨zs, hlc, hz, hd⟩ := data_of hf
  obtain ⟨a1, rfl, rfl, rfl, w1⟩ := open_int Ybad.underlying5 (hval 1 5 v1 rfl rfl) h1
  obtain ⟨a2, rfl, rfl, rfl, w2⟩ := open_int Ybad.underlying5 (hval 2 5 v2 rfl rfl) h2
  obtain ⟨a3, rfl, rfl, rfl, w3⟩ := open_int Ybad.underlying2 (hval 3 2 v3 rfl rfl) h3
  obtain ⟨a, hE⟩ := eof_of hL
  clear hA0 hval0
  refine (rdr_walk a0 len0 cap0 a1 a2 a3 zs a W hlc hz hd hE w1 w2).mono fun e W' ⟨he, bel⟩ => ?_
  subst he
  exact ⟨_, rfl, _, _, _, [], _, [], hW', trodAll_mk1 (shut_bool Ybad.underlying4 _), (trodAll_cons_mk (Below.trod laidOut (by kernel_rfl) (of_decide_eq_true (by kernel_rfl)) k0 bel lt0) (trodAll_cons_mk (shut_int Ybad.underlying5 w1) (trodAll_cons_mk (shut_int Ybad.underlying5 w2) (trodAll_cons_mk (shut_int Ybad.underlying2 w3) trodAll_mk0)))), rfl, bel.frame _, fun h => by cases h⟩

theorem rdr_holds : Rows.LawS0679AReaderSaid :=
  OpenClaim.holds_of_wide 4 Ybad.f4 rfl rfl rfl rfl rfl rfl rfl ⟨rfl, rfl, rfl, rfl, rfl⟩ rfl rfl rfl rfl rfl (by kernel_rfl) Ybad.func4 (by kernel_rfl)
    (of_decide_eq_true (by kernel_rfl)) (by unfold Func.isWrapper; first | (rw [if_pos (by decide +kernel)]; kernel_rfl) | (rw [if_neg (by decide +kernel)]; exact ⟨rfl, rfl⟩))
    (fun os started H enc _ => rdr_lifted os started H enc)

/-- THE STATEMENT. -/
theorem lawS0679AReader_card : Rows.LawS0679AReaderCardSaid :=
  Claim7.holds_tied_plain_at .later [] [.sentinel, .sentinel] true _ true
    rdr_holds (fun _ h => by cases h) (by kernel_rfl) (fun _ h => by cases h) lawS0679AReader_row_tie rfl ⟨rfl, rfl⟩ (by kernel_rfl) rfl
    (fun f fn hf hfn => by
      obtain rfl : f = 4 := Option.some.inj ((show Ybad.prog.funcNamed Rows.lawS0679AReaderRow.func = some 4 by kernel_rfl).symm.trans hf) |>.symm
      obtain rfl : fn = Ybad.f4 := (Option.some.inj (Ybad.func4.symm.trans hfn)).symm
      have hall : (Ybad.f4.params.toList.all fun t => !Ybad.prog.wantsStandIn t) = true := by kernel_rfl
      exact ⟨by kernel_rfl, fun j t ht => by
        have := List.all_eq_true.1 hall t (List.mem_of_getElem? (by simpa using ht))
        exact (show Ybad.prog.wantsStandIn t = false by simpa using this)⟩)
    (by kernel_rfl)
end Go.Proofs.YbulknaqDoor
