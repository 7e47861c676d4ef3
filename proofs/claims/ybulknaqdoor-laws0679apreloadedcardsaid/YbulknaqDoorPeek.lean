/-
  'peek' of one byte.
-/
import Derived.Test.YbulknaqDoorState
namespace Go.Proofs.YbulknaqDoor
open Go.RowKit

theorem St.drew {w0 w : World} {N Bf R D len start blen bcap off calls c : Nat} {zs : List Int} {a : Addr} {mode rl : Bool} {Fr : Nat → Nat → Value → Prop} (h : St w0 w N Bf R D len start blen bcap off calls c zs a mode rl Fr) : St w0 w.drew N Bf R D len start blen bcap off calls c zs a mode rl Fr :=
  ⟨h.inp.drew, h.frN, h.bytes, h.rcl, h.below.drew, h.n0, h.b0, h.r0, h.NR, h.NB, h.ND, h.RB, h.RD, h.hl, h.hend, h.hmode, fun e => by obtain ⟨a1, a2, a3, a4, a5, a6⟩ := h.rd e; exact ⟨a1, a2.drew, a3, a4, a5, a6⟩, h.cl, h.frm⟩

set_option maxRecDepth 100000 in
set_option maxHeartbeats 400000 in
theorem peek_have {w0 w : World} {N Bf R D len start blen bcap off calls c : Nat} {zs : List Int} {a : Addr} {mode rl : Bool} {Fr : Nat → Nat → Value → Prop} (h : St w0 w N Bf R D len start blen bcap off calls c zs a mode rl Fr) (hlt : off < start + blen) :
    Calls Ybad.prog 13 #[.pointer (some ⟨N, 0, none⟩), .int .i64 1] w fun e w' => (∃ v, e = .returned (.tuple #[v, .nilIface])) ∧ w.drew.drew = w' := by
  obtain ⟨r, hr⟩ : ∃ r, off + r = start + blen := ⟨start + blen - off, by omega⟩
  have H : Hid (off + r = start + blen) := hr
  have hr1 : 1 ≤ r := by omega
  have hr2 : r ≤ 5000 := by have := h.hend; have := h.hl; omega
  have I1 : Hid (Inp w N Bf blen bcap start off _) := h.inp
  have I2 : Hid (Inp w.drew N Bf blen bcap start off _) := h.inp.drew
  clear hr h hlt
  go_enter Ybad.func13, Ybad.ntmps13
  go_wp2_with fail
  refine wp_loop_rounds 1 ?_
  rw [rounds_succ]
  go_wp2_with fail
  refine (buffered_any w N Bf blen bcap start off _ I1.out r H).mono ?_
  rintro e w' ⟨⟨ad, rfl⟩, rfl⟩
  go_wp2_with fail
  refine (buffered_any w.drew N Bf blen bcap start off _ I2.out r H).mono ?_
  rintro e w' ⟨⟨ad2, rfl⟩, rfl⟩
  go_wp2_with fail
  go_ret2
  exact ⟨⟨_, rfl⟩, rfl⟩

set_option maxRecDepth 100000 in
set_option maxHeartbeats 1000000 in
theorem peek_empty {w0 w : World} {N Bf R D len start blen bcap off calls c : Nat} {zs : List Int} {a : Addr} {mode rl : Bool} {Fr : Nat → Nat → Value → Prop} (h : St w0 w N Bf R D len start blen bcap off calls c zs a mode rl Fr) (hE : w0.cell? ⟨0, 0, none⟩ = some (.iface 78 (.pointer (some a)))) (he : start + blen = off) :
    Calls Ybad.prog 13 #[.pointer (some ⟨N, 0, none⟩), .int .i64 1] w fun e w' =>
      (off = len ∧ (∃ v, e = .returned (.tuple #[v, .iface 78 (.pointer (some a))])) ∧ ∃ start' blen' bcap' calls', St w0 w' N Bf R D len start' blen' bcap' off calls' c zs a true rl Fr) ∨
      (off < len ∧ (∃ v, e = .returned (.tuple #[v, .nilIface])) ∧ ∃ start' blen' bcap' calls', St w0 w' N Bf R D len start' blen' bcap' off calls' c zs a false rl Fr ∧ off < start' + blen') := by
  have H : Hid (off + 0 = start + blen) := he.symm
  have HE : Hid (w0.cell? ⟨0, 0, none⟩ = some (.iface 78 (.pointer (some a)))) := hE
  have I1 : Hid (Inp w N Bf blen bcap start off _) := h.inp
  have HS : Hid (St w0 w.drew N Bf R D len start blen bcap off calls c zs a mode rl Fr) := h.drew
  have HO : Hid (start + blen = off) := he
  clear h he hE
  go_enter Ybad.func13, Ybad.ntmps13
  go_wp2_with fail
  refine wp_loop_rounds 2 ?_
  rw [rounds_succ]
  go_wp2_with fail
  refine (buffered_any w N Bf blen bcap start off _ I1.out 0 H).mono ?_
  rintro e w' ⟨⟨ad, rfl⟩, rfl⟩
  go_wp2_with fail
  refine (fill_St HS.out HE.out HO.out).mono ?_
  rintro e w' (⟨hl, rfl, s1, b1, p1, l1, S1⟩ | ⟨hl, rfl, s1, b1, p1, l1, S1, hlt⟩)
  · have HS1 : Hid (St w0 w' N Bf R D len s1 b1 p1 off l1 c zs a true rl Fr) := S1
    obtain ⟨r, hr⟩ : ∃ r, off + r = s1 + b1 := ⟨s1 + b1 - off, by have := S1.inp.h2; omega⟩
    have H1 : Hid (off + r = s1 + b1) := hr
    have HL : Hid (off = len) := hl
    clear hr S1 hl
    go_wp2_with fail
    refine (buffered_any w' N Bf b1 p1 s1 off _ HS1.out.inp r H1).mono ?_
    rintro e w2 ⟨⟨ad, rfl⟩, rfl⟩
    go_wp2_with fail
    go_ret2
    exact Or.inl ⟨HL.out, ⟨_, rfl⟩, _, _, _, _, HS1.out.drew⟩
  · have HS1 : Hid (St w0 w' N Bf R D len s1 b1 p1 off l1 c zs a false rl Fr) := S1
    obtain ⟨r, hr⟩ : ∃ r, off + r = s1 + b1 := ⟨s1 + b1 - off, by omega⟩
    have H1 : Hid (off + r = s1 + b1) := hr
    have hr1 : 1 ≤ r := by omega
    have hr2 : r ≤ 5000 := by have := S1.hend; have := S1.hl; omega
    have HL : Hid (off < len ∧ off < s1 + b1) := ⟨hl, hlt⟩
    clear hr S1 hl hlt
    go_wp2_with fail
    rw [rounds_succ]
    go_wp2_with fail
    refine (buffered_any w' N Bf b1 p1 s1 off _ HS1.out.inp r H1).mono ?_
    rintro e w2 ⟨⟨ad1, rfl⟩, rfl⟩
    go_wp2_with fail
    refine (buffered_any w'.drew N Bf b1 p1 s1 off _ HS1.out.drew.inp r H1).mono ?_
    rintro e w2 ⟨⟨ad2, rfl⟩, rfl⟩
    go_wp2_with fail
    go_ret2
    exact Or.inr ⟨HL.out.1, ⟨_, rfl⟩, _, _, _, _, HS1.out.drew.drew, HL.out.2⟩

theorem peek_any {w0 w : World} {N Bf R D len start blen bcap off calls c : Nat} {zs : List Int} {a : Addr} {mode rl : Bool} {Fr : Nat → Nat → Value → Prop} (h : St w0 w N Bf R D len start blen bcap off calls c zs a mode rl Fr) (hE : w0.cell? ⟨0, 0, none⟩ = some (.iface 78 (.pointer (some a)))) :
    Calls Ybad.prog 13 #[.pointer (some ⟨N, 0, none⟩), .int .i64 1] w fun e w' =>
      (off = len ∧ (∃ v, e = .returned (.tuple #[v, .iface 78 (.pointer (some a))])) ∧ ∃ start' blen' bcap' calls', St w0 w' N Bf R D len start' blen' bcap' off calls' c zs a true rl Fr) ∨
      (off < len ∧ (∃ v, e = .returned (.tuple #[v, .nilIface])) ∧ ∃ start' blen' bcap' calls' mode', St w0 w' N Bf R D len start' blen' bcap' off calls' c zs a mode' rl Fr ∧ off < start' + blen') := by
  by_cases hlt : off < start + blen
  · refine (peek_have h hlt).mono ?_
    rintro e w' ⟨⟨v, rfl⟩, rfl⟩
    exact Or.inr ⟨by have := h.hend; omega, ⟨v, rfl⟩, _, _, _, _, _, h.drew.drew, hlt⟩
  · refine (peek_empty h hE (by have := h.inp.h2; omega)).mono ?_
    rintro e w' (⟨hl, hv, x⟩ | ⟨hl, hv, s1, b1, p1, l1, S1, hlt⟩)
    · exact Or.inl ⟨hl, hv, x⟩
    · exact Or.inr ⟨hl, hv, s1, b1, p1, l1, false, S1, hlt⟩
end Go.Proofs.YbulknaqDoor
