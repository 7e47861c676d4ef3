/-
  'fixed'.
-/
import Derived.Test.YbulknaqDoorByte
import Derived.Test.YbulknaqDoorLe
namespace Go.Proofs.YbulknaqDoor
open Go.RowKit

theorem St.alloc {w0 w : World} {N Bf R D len start blen bcap off calls c : Nat} {zs : List Int} {a : Addr} {mode rl : Bool} {Fr : Nat → Nat → Value → Prop} (h : St w0 w N Bf R D len start blen bcap off calls c zs a mode rl Fr) (hBf : Bf < w.heap.size) (C : Array Value) (t : TypeId) :
    St w0 (w.alloc (.cells C t)) N Bf R D len start blen bcap off calls c zs a mode rl (fun b o v => Fr b o v ∨ (b = w.heap.size ∧ C[o]? = some v)) := by
  have old : ∀ {x : Addr} {v : Value}, w.cell? x = some v → (w.alloc (.cells C t)).cell? x = some v := fun {x v} hx => by
    rw [World.cell?_alloc_lt _ _ _ (World.block_lt_of_cell? _ _ hx)]; exact hx
  have hN : N < w.heap.size := World.block_lt_of_cell? _ _ h.inp.err
  have hR : R < w.heap.size := World.block_lt_of_cell? _ _ h.rcl
  have frz : ∀ b o, b < w.heap.size → (w.alloc (.cells C t)).frozen? ⟨b, o, none⟩ = w.frozen? ⟨b, o, none⟩ := fun b o hb => World.frozen?_alloc_past _ _ _ hb
  refine ⟨⟨old h.inp.err, old h.inp.buf, old h.inp.full, old h.inp.startc, old h.inp.offc, h.inp.h1, h.inp.h2, h.inp.h3, h.inp.h4⟩, fun j => by rw [frz _ _ hN]; exact h.frN j, fun i hi => old (h.bytes i hi), old h.rcl, h.below.alloc h.below.size _,
    h.n0, h.b0, h.r0, h.NR, h.NB, h.ND, h.RB, h.RD, h.hl, h.hend, h.hmode, fun e => ?_, h.cl, fun b o v hv => ?_⟩
  · obtain ⟨a1, a2, a3, a4, a5, a6⟩ := h.rd e
    exact ⟨old a1, ⟨old a2.r0, old a2.r1, old a2.r2, old a2.r3, fun j => by rw [frz _ _ hR]; exact a2.fr j, fun i hi => old (a2.dat i hi), a2.hk, a2.hl, a2.c1, a2.c4, a2.hc⟩, a3, fun j hj => by obtain ⟨v, hv⟩ := a4 j hj; exact ⟨v, old hv⟩, fun j => by rw [frz _ _ hBf]; exact a5 j, a6⟩
  · rcases hv with hv | ⟨rfl, hv⟩
    · obtain ⟨x1, x2, x3, x4⟩ := h.frm b o v hv
      exact ⟨x1, x2, x3, old x4⟩
    · exact ⟨by omega, by omega, by omega, by rw [World.cell?_alloc_at _ _ _ _ rfl]; exact hv⟩

/-- what 'fixed' leaves: the input's place, the reader's calls -/
structure Fin (w0 w : World) (N R k off : Nat) (rl : Bool) : Prop where
  below : Below w0.heap.size w0 w
  off : w.cell? ⟨N, 5, none⟩ = some (.int .i64 off)
  calls : ∃ calls : Nat, w.cell? ⟨R, 3, none⟩ = some (.int .i64 calls) ∧ (rl = true → 0 < k → 1 ≤ calls)

theorem St.fin {w0 w : World} {N Bf R D len start blen bcap off calls c : Nat} {zs : List Int} {a : Addr} {mode rl : Bool} {Fr : Nat → Nat → Value → Prop} (h : St w0 w N Bf R D len start blen bcap off calls c zs a mode rl Fr) (k : Nat) (hk : 0 < k → mode = true ∨ 0 < off) : Fin w0 w N R k off rl :=
  ⟨h.below, h.inp.offc, calls, h.rcl, fun e hk0 => h.cl e (by
    rcases hk hk0 with x | x
    · exact Or.inl x
    · exact Or.inr (by have := h.inp.h2; omega))⟩
theorem Fin.later {w0 w w' : World} {N R k off : Nat} {rl : Bool} (h : Fin w0 w N R k off rl) (b : Below w.heap.size w w') : Fin w0 w' N R k off rl :=
  ⟨h.below.trans (b.mono h.below.size), cell_later b h.off, by obtain ⟨l, h1, h2⟩ := h.calls; exact ⟨l, cell_later b h1, h2⟩⟩

set_option maxRecDepth 100000 in
set_option maxHeartbeats 1000000 in
theorem fixed_any {w0 w : World} {N Bf R D len start blen bcap calls c : Nat} {zs : List Int} {a : Addr} {mode rl : Bool} {Fr : Nat → Nat → Value → Prop} (h : St w0 w N Bf R D len start blen bcap 0 calls c zs a mode rl Fr) (hBf : Bf < w.heap.size) (hE : w0.cell? ⟨0, 0, none⟩ = some (.iface 78 (.pointer (some a)))) (k : Nat) (hk : k ≤ 8) (en : Int) (hz : ∀ j : Nat, 0 ≤ zs[j]?.getD 0 ∧ zs[j]?.getD 0 ≤ 255) :
    Calls Ybad.prog 5 #[.agg #[.pointer (some ⟨N, 0, none⟩), .int .i64 en], .int .i64 k] w fun e w' =>
      (len < k ∧ ∃ g, e = .returned (.tuple #[.int .u64 0, .iface 49 (.pointer (some ⟨g, 0, none⟩))]) ∧ Mal w' g len unEnd ∧ Fin w0 w' N R k len rl) ∨
      (k ≤ len ∧ (k : Int) ≤ en ∧ e = .returned (.tuple #[.int .u64 (le zs k), .nilIface]) ∧ Fin w0 w' N R k k rl) ∨
      (k ≤ len ∧ en < (k : Int) ∧ ∃ g, e = .returned (.tuple #[.int .u64 (le zs k), .iface 49 (.pointer (some ⟨g, 0, none⟩))]) ∧ Mal w' g en secEnd ∧ Fin w0 w' N R k k rl) := by
  have HE : Hid (w0.cell? ⟨0, 0, none⟩ = some (.iface 78 (.pointer (some a)))) := hE
  have HS := h.alloc hBf #[.pointer (some ⟨N, 0, none⟩), .int .i64 en] 34
  clear h hE
  go_enter Ybad.func5, Ybad.ntmps5
  go_wp2_with fail
  go_loopw [6, 11] (fun v i wr => ∃ (j : Nat) (start' blen' bcap' calls' : Nat) (mode' : Bool), j ≤ k ∧ j ≤ len ∧ v = .int .u64 (le zs j) ∧ i = .int .i64 j ∧ St w0 wr N Bf R D len start' blen' bcap' j calls' c zs a mode' rl (fun b o v => Fr b o v ∨ (b = w.heap.size ∧ (#[.pointer (some ⟨N, 0, none⟩), .int .i64 en] : Array Value)[o]? = some v))) (fun _ i _ => k - (intOf i).toNat)
  case atStart => exact ⟨0, _, _, _, _, _, Nat.zero_le _, Nat.zero_le _, rfl, rfl, HS⟩
  case round =>
    obtain ⟨j, s1, b1, p1, l1, m1, hj, hjl, rfl, rfl, S1⟩ := hrel
    have g0 := (S1.frm w.heap.size 0 (.pointer (some ⟨N, 0, none⟩)) (Or.inr ⟨rfl, rfl⟩)).2.2.2
    have g1 := (S1.frm w.heap.size 1 (.int .i64 en) (Or.inr ⟨rfl, rfl⟩)).2.2.2
    have HS1 : Hid (St w0 wr N Bf R D len s1 b1 p1 j l1 c zs a m1 rl _) := S1
    have hzj := hz j
    have HZ : Hid (∀ j : Nat, 0 ≤ zs[j]?.getD 0 ∧ zs[j]?.getD 0 ≤ 255) := hz
    have hle := le_lt64 zs hz j (by omega)
    obtain ⟨x, hx⟩ : ∃ x, le zs j = x := ⟨_, rfl⟩
    have HX : Hid (le zs j = x) := hx
    rw [hx] at hle ⊢
    clear S1 HS hz hx
    by_cases hlt : j < k
    · go_wp2_with (go_at_call 7; refine (readByte_any HS1.out HE.out).mono ?_)
      rintro e w' (⟨hl, g, rfl, M, s2, b2, p2, l2, S2⟩ | ⟨hl, rfl, s2, b2, p2, l2, m2, S2⟩)
      · have HF : Hid (len < k ∧ Mal w' g len unEnd ∧ Fin w0 w' N R k len rl) := by subst hl; exact ⟨hlt, M, S2.fin k (fun _ => Or.inl rfl)⟩
        clear M S2
        go_wp2_with fail
        go_ret2
        exact Or.inl ⟨HF.out.1, g, rfl, HF.out.2.1, HF.out.2.2⟩
      · have HS2 : Hid (St w0 w' N Bf R D len s2 b2 p2 (j + 1) l2 c zs a m2 rl _) := S2
        clear S2
        go_wp2_with fail
        go_roundw
        case rel => exact ⟨j + 1, s2, b2, p2, l2, m2, by omega, by omega, by rw [← HX.out, le_step zs HZ.out j (by omega)], by go_num, HS2.out⟩
        case measure => simp [intOf]; omega
    · have hjk : j = k := by omega
      have hoff := HS1.out.inp.offc
      have HF : Hid (Fin w0 wr N R k k rl) := by subst hjk; exact HS1.out.fin _ (fun h => Or.inr h)
      have HX2 : Hid (le zs k = x) := by subst hjk; exact HX.out
      have hkl : k ≤ len := by omega
      by_cases hen : (k : Int) ≤ en
      · go_wp2_with (go_at_call 8; refine (within_ok _ N j en hoff (by omega)).mono ?_; rintro e w2 ⟨rfl, B⟩)
        go_ret2
        exact Or.inr (Or.inl ⟨hkl, hen, by rw [HX2.out]; rfl, HF.out.later B⟩)
      · go_wp2_with (go_at_call 8; refine (within_past _ N j en hoff (by omega)).mono ?_; rintro e w2 ⟨g, rfl, M, B⟩)
        go_ret2
        exact Or.inr (Or.inr ⟨hkl, by omega, g, by rw [HX2.out]; rfl, M, HF.out.later B⟩)
end Go.Proofs.YbulknaqDoor
