/-
  'fill': at an error that is kept; with bytes to come; at the reader's end.
-/
import Derived.Test.YbulknaqDoorRead
import Derived.Deep.RegionWith
namespace Go.Proofs.YbulknaqDoor
open Go.RowKit

set_option maxRecDepth 100000 in
set_option maxHeartbeats 400000 in
theorem fill_err (w : World) (N : Nat) (a : Addr) (h : w.cell? ⟨N, 1, none⟩ = some (.iface 78 (.pointer (some a)))) :
    Calls Ybad.prog 16 #[.pointer (some ⟨N, 0, none⟩)] w fun e w' => e = .returned (.iface 78 (.pointer (some a))) ∧ w' = w := by
  go_enter Ybad.func16, Ybad.ntmps16
  go_wp2
  go_ret
  exact ⟨rfl, rfl⟩

theorem Inp.drew {w : World} {N Bf blen bcap start off : Nat} {err : Value} (h : Inp w N Bf blen bcap start off err) : Inp w.drew N Bf blen bcap start off err :=
  ⟨h.err, h.buf, h.full, h.startc, h.offc, h.h1, h.h2, h.h3, h.h4⟩

theorem Rdr.drew {w : World} {R D len k c calls : Nat} {zs : List Int} (h : Rdr w R D len k c calls zs) : Rdr w.drew R D len k c calls zs :=
  ⟨h.r0, h.r1, h.r2, h.r3, h.fr, h.dat, h.hk, h.hl, h.c1, h.c4, h.hc⟩
theorem ne_block {b o b' o' : Nat} (h : b ≠ b') : (⟨b, o, none⟩ : Addr) ≠ ⟨b', o', none⟩ := by intro e; simp only [Addr.mk.injEq] at e; exact h e.1
theorem Rdr.setOther {w : World} {R D len k c calls : Nat} {zs : List Int} (h : Rdr w R D len k c calls zs) {N o : Nat} (v : Value) (h1 : N ≠ R) (h2 : N ≠ D) : Rdr (w.setCell ⟨N, o, none⟩ v) R D len k c calls zs :=
  ⟨by rw [World.cell?_setCell_other _ _ _ _ (ne_block h1)]; exact h.r0, by rw [World.cell?_setCell_other _ _ _ _ (ne_block h1)]; exact h.r1, by rw [World.cell?_setCell_other _ _ _ _ (ne_block h1)]; exact h.r2,
    by rw [World.cell?_setCell_other _ _ _ _ (ne_block h1)]; exact h.r3, fun j => by rw [World.frozen?_setCell]; exact h.fr j, fun i hi => by rw [World.cell?_setCell_other _ _ _ _ (ne_block h2)]; exact h.dat i hi, h.hk, h.hl, h.c1, h.c4, h.hc⟩

theorem readW_cell (w : World) (R Bf k calls m : Nat) (zs : List Int) (b o : Nat) (h1 : b ≠ R) (h2 : b ≠ Bf) : (readW w R Bf k calls m zs).cell? ⟨b, o, none⟩ = w.cell? ⟨b, o, none⟩ := by
  rw [readW, World.cell?_setCell_other _ _ _ _ (ne_block (Ne.symm h1)), World.cell?_setCells_out _ _ _ _ _ (fun e => absurd e h2), World.cell?_drew, World.cell?_drew, World.cell?_drew, World.cell?_setCell_other _ _ _ _ (ne_block (Ne.symm h1))]
theorem readW_frozen (w : World) (R Bf k calls m : Nat) (zs : List Int) (x : Addr) : (readW w R Bf k calls m zs).frozen? x = w.frozen? x := by
  rw [readW, World.frozen?_setCell, World.frozen?_setCells, World.frozen?_drew, World.frozen?_drew, World.frozen?_drew, World.frozen?_setCell]

theorem methodRead (a : Addr) (w : World) : (method 222 24 (.pointer (some a)) "Read").run Ybad.prog w = .ok (36, .pointer (some a)) w := by kernel_rfl

/-- the world ahead of the Read in 'fill', and behind it -/
def preW (w : World) (N Bf k : Nat) : World := ((w.setCell ⟨N, 2, none⟩ (.slice (some ⟨Bf, 0, none⟩) 0 16)).setCell ⟨N, 4, none⟩ (.int .i64 k)).drew.drew.drew.drew
def postW (w : World) (N Bf m : Nat) (err : Value) : World := ((w.setCell ⟨N, 2, none⟩ (.slice (some ⟨Bf, 0, none⟩) m 16)).setCell ⟨N, 3, none⟩ (.bool false)).setCell ⟨N, 1, none⟩ err

theorem preW_cell (w : World) (N Bf k b o : Nat) (h : b ≠ N ∨ (o ≠ 2 ∧ o ≠ 4)) : (preW w N Bf k).cell? ⟨b, o, none⟩ = w.cell? ⟨b, o, none⟩ := by
  have n2 : (⟨N, 2, none⟩ : Addr) ≠ ⟨b, o, none⟩ := by intro e; simp only [Addr.mk.injEq] at e; omega
  have n4 : (⟨N, 4, none⟩ : Addr) ≠ ⟨b, o, none⟩ := by intro e; simp only [Addr.mk.injEq] at e; omega
  rw [preW, World.cell?_drew, World.cell?_drew, World.cell?_drew, World.cell?_drew, World.cell?_setCell_other _ _ _ _ n4, World.cell?_setCell_other _ _ _ _ n2]
theorem preW_frozen (w : World) (N Bf k : Nat) (x : Addr) : (preW w N Bf k).frozen? x = w.frozen? x := by
  rw [preW, World.frozen?_drew, World.frozen?_drew, World.frozen?_drew, World.frozen?_drew, World.frozen?_setCell, World.frozen?_setCell]
theorem preW_two (w : World) (N Bf k : Nat) {v : Value} (h : w.cell? ⟨N, 2, none⟩ = some v) : (preW w N Bf k).cell? ⟨N, 2, none⟩ = some (.slice (some ⟨Bf, 0, none⟩) 0 16) := by
  rw [preW, World.cell?_drew, World.cell?_drew, World.cell?_drew, World.cell?_drew, World.cell?_setCell_other _ _ _ _ (by simp)]
  exact World.cell?_setCell_same _ _ _ h
theorem preW_four (w : World) (N Bf k : Nat) {v : Value} (h : w.cell? ⟨N, 4, none⟩ = some v) : (preW w N Bf k).cell? ⟨N, 4, none⟩ = some (.int .i64 k) := by
  rw [preW, World.cell?_drew, World.cell?_drew, World.cell?_drew, World.cell?_drew]
  exact World.cell?_setCell_same (u := v) _ _ _ (by rw [World.cell?_setCell_other _ _ _ _ (by simp)]; exact h)

set_option maxRecDepth 100000 in
set_option maxHeartbeats 1000000 in
theorem fill_some (w : World) (N R D Bf len blen start k c calls : Nat) (zs : List Int) (h : Inp w N Bf blen 16 start k .nilIface) (hke : Hid (start + blen = k)) (frN : ∀ j, w.frozen? ⟨N, j, none⟩ = false)
    (hr : w.cell? ⟨N, 0, none⟩ = some (.iface 24 (.pointer (some ⟨R, 0, none⟩)))) (hR : Rdr w R D len k c calls zs) (hkl : k < len) (hb : ∀ j, j < 16 → ∃ v, w.cell? ⟨Bf, j, none⟩ = some v) (hf : ∀ j, w.frozen? ⟨Bf, j, none⟩ = false)
    (hRB : R ≠ Bf) (hRD : R ≠ D) (hNR : N ≠ R) (hNB : N ≠ Bf) (hND : N ≠ D) :
    Calls Ybad.prog 16 #[.pointer (some ⟨N, 0, none⟩)] w fun e w' => ∃ m : Nat, 1 ≤ m ∧ m ≤ 4 ∧ k + m ≤ len ∧ e = .returned .nilIface ∧ postW (readW (preW w N Bf k) R Bf k calls m zs) N Bf m .nilIface = w' := by
  have HI : Hid (Inp w.drew N Bf blen 16 start k .nilIface) := h.drew
  have hr0 : Hid (k + 0 = start + blen) := hke.out.symm
  have HR : Hid (Rdr (preW w N Bf k) R D len k c calls zs) := ((((hR.setOther _ hNR hND).setOther _ hNR hND).drew).drew).drew.drew
  have HB : Hid (∀ j, j < 16 → ∃ v, (preW w N Bf k).cell? ⟨Bf, j, none⟩ = some v) := fun j hj => by rw [preW_cell _ _ _ _ _ _ (Or.inl (Ne.symm hNB))]; exact hb j hj
  have HF : Hid (∀ j, (preW w N Bf k).frozen? ⟨Bf, j, none⟩ = false) := fun j => by rw [preW_frozen]; exact hf j
  obtain ⟨c1, c2, c3, c4, c5, h1, h2, h3, h4⟩ := h
  have f1 := frN 1
  have f2 := frN 2
  have f3 := frN 3
  have f4 := frN 4
  have mR := methodRead
  have H2 : Hid (w.cell? ⟨N, 2, none⟩ = some (.slice (some ⟨Bf, 0, none⟩) blen 16)) := c2
  have H13 : Hid (w.cell? ⟨N, 1, none⟩ = some .nilIface ∧ w.cell? ⟨N, 3, none⟩ = some (.bool false)) := ⟨c1, c3⟩
  have HN : Hid (∀ j, w.frozen? ⟨N, j, none⟩ = false) := frN
  clear frN hb hf
  go_enter Ybad.func16, Ybad.ntmps16
  go_wp2_with fail
  go_region
  go_wp2_with (first | (go_at_call 15; refine (buffered_any _ N Bf blen 16 start k .nilIface HI.out 0 hr0).mono ?_; rintro e w' ⟨⟨ad, rfl⟩, rfl⟩) | (go_at_call 18; go_in) | (refine wpList_copy_nothing rfl (.tmp 32) (.tmp 34) 22 22 rfl 5 Ybad.underlying22 size5 _ _ _ _ _ _ rfl rfl rfl ?_))
  go_region
  go_wp2_with fail
  refine wp_loop_rounds 1 ?_
  rw [rounds_succ]
  go_wp2_with fail
  go_region_with (go_at_call 36; refine (read_some (preW w N Bf k) R D len k c calls Bf zs HR.out hkl HB.out HF.out hRB hRD).mono ?_; rintro e w' ⟨m, hm1, hm4, hml, rfl, hw'⟩; have q1 : w'.cell? ⟨N, 1, none⟩ = some .nilIface := (by rw [← hw', readW_cell _ _ _ _ _ _ _ _ _ hNR hNB, preW_cell _ _ _ _ _ _ (Or.inr (by decide))]; exact H13.out.1); have q3 : w'.cell? ⟨N, 3, none⟩ = some (.bool false) := (by rw [← hw', readW_cell _ _ _ _ _ _ _ _ _ hNR hNB, preW_cell _ _ _ _ _ _ (Or.inr (by decide))]; exact H13.out.2); have q2 : w'.cell? ⟨N, 2, none⟩ = some (.slice (some ⟨Bf, 0, none⟩) 0 16) := (by rw [← hw', readW_cell _ _ _ _ _ _ _ _ _ hNR hNB]; exact preW_two _ _ _ _ H2.out); have qf : ∀ j, w'.frozen? ⟨N, j, none⟩ = false := (fun j => by rw [← hw', readW_frozen, preW_frozen]; exact HN.out j); have HW : Hid (readW (preW w N Bf k) R Bf k calls m zs = w') := hw'; clear hw')
  go_wp2
  go_ret
  have e16 : ((m : Int) == 16) = false := by simp; omega
  exact ⟨m, hm1, hm4, hml, rfl, by rw [HW.out, e16]; rfl⟩

/-- the world behind a Read at the end -/
def endW (w : World) (R calls : Nat) : World := (w.setCell ⟨R, 3, none⟩ (.int .i64 ((calls : Int) + 1))).drew.drew
theorem endW_cell (w : World) (R calls b o : Nat) (h1 : b ≠ R) : (endW w R calls).cell? ⟨b, o, none⟩ = w.cell? ⟨b, o, none⟩ := by
  rw [endW, World.cell?_drew, World.cell?_drew, World.cell?_setCell_other _ _ _ _ (ne_block (Ne.symm h1))]
theorem endW_frozen (w : World) (R calls : Nat) (x : Addr) : (endW w R calls).frozen? x = w.frozen? x := by
  rw [endW, World.frozen?_drew, World.frozen?_drew, World.frozen?_setCell]

set_option maxRecDepth 100000 in
set_option maxHeartbeats 1000000 in
theorem fill_end (w : World) (N R D Bf len blen start c calls : Nat) (zs : List Int) (a : Addr) (h : Inp w N Bf blen 16 start len .nilIface) (hke : Hid (start + blen = len)) (frN : ∀ j, w.frozen? ⟨N, j, none⟩ = false)
    (hr : w.cell? ⟨N, 0, none⟩ = some (.iface 24 (.pointer (some ⟨R, 0, none⟩)))) (hR : Rdr w R D len len c calls zs) (hE : w.cell? ⟨0, 0, none⟩ = some (.iface 78 (.pointer (some a))))
    (hNR : N ≠ R) (hND : N ≠ D) (hN0 : N ≠ 0) :
    Calls Ybad.prog 16 #[.pointer (some ⟨N, 0, none⟩)] w fun e w' => e = .returned (.iface 78 (.pointer (some a))) ∧ postW (endW (preW w N Bf len) R calls) N Bf 0 (.iface 78 (.pointer (some a))) = w' := by
  have HI : Hid (Inp w.drew N Bf blen 16 start len .nilIface) := h.drew
  have hr0 : Hid (len + 0 = start + blen) := hke.out.symm
  have HR : Hid (Rdr (preW w N Bf len) R D len len c calls zs) := ((((hR.setOther _ hNR hND).setOther _ hNR hND).drew).drew).drew.drew
  have HE : Hid ((preW w N Bf len).cell? ⟨0, 0, none⟩ = some (.iface 78 (.pointer (some a)))) := by show _ = _; rw [preW_cell _ _ _ _ _ _ (Or.inl (Ne.symm hN0))]; exact hE
  obtain ⟨c1, c2, c3, c4, c5, h1, h2, h3, h4⟩ := h
  have f1 := frN 1
  have f2 := frN 2
  have f3 := frN 3
  have f4 := frN 4
  have mR := methodRead
  have H2 : Hid (w.cell? ⟨N, 2, none⟩ = some (.slice (some ⟨Bf, 0, none⟩) blen 16)) := c2
  have H13 : Hid (w.cell? ⟨N, 1, none⟩ = some .nilIface ∧ w.cell? ⟨N, 3, none⟩ = some (.bool false)) := ⟨c1, c3⟩
  have HN : Hid (∀ j, w.frozen? ⟨N, j, none⟩ = false) := frN
  clear frN hE
  go_enter Ybad.func16, Ybad.ntmps16
  go_wp2_with fail
  go_region
  go_wp2_with (first | (go_at_call 15; refine (buffered_any _ N Bf blen 16 start len .nilIface HI.out 0 hr0).mono ?_; rintro e w' ⟨⟨ad, rfl⟩, rfl⟩) | (go_at_call 18; go_in) | (refine wpList_copy_nothing rfl (.tmp 32) (.tmp 34) 22 22 rfl 5 Ybad.underlying22 size5 _ _ _ _ _ _ rfl rfl rfl ?_))
  go_region
  go_wp2_with fail
  refine wp_loop_rounds 1 ?_
  rw [rounds_succ]
  go_wp2_with fail
  go_region_with (go_at_call 36; refine (read_end (preW w N Bf len) R D len c calls Bf zs _ HR.out HE.out).mono ?_; rintro e w' ⟨rfl, hw0⟩; have hw' : endW (preW w N Bf len) R calls = w' := hw0.symm; have q1 : w'.cell? ⟨N, 1, none⟩ = some .nilIface := (by rw [← hw', endW_cell _ _ _ _ _ hNR, preW_cell _ _ _ _ _ _ (Or.inr (by decide))]; exact H13.out.1); have q3 : w'.cell? ⟨N, 3, none⟩ = some (.bool false) := (by rw [← hw', endW_cell _ _ _ _ _ hNR, preW_cell _ _ _ _ _ _ (Or.inr (by decide))]; exact H13.out.2); have q2 : w'.cell? ⟨N, 2, none⟩ = some (.slice (some ⟨Bf, 0, none⟩) 0 16) := (by rw [← hw', endW_cell _ _ _ _ _ hNR]; exact preW_two _ _ _ _ H2.out); have qf : ∀ j, w'.frozen? ⟨N, j, none⟩ = false := (fun j => by rw [← hw', endW_frozen, preW_frozen]; exact HN.out j); have HW : Hid (endW (preW w N Bf len) R calls = w') := hw'; clear hw' hw0)
  go_wp2
  go_ret
  exact ⟨rfl, by rw [HW.out]; rfl⟩
end Go.Proofs.YbulknaqDoor
