/-
  binary.LittleEndian.Uint64; zzs0679acheck, its ways.
-/
import Derived.Test.YbulknaqDoorFixed
import Derived.Deep.QuietTactic
import Derived.BigQuiet
namespace Go.Proofs.YbulknaqDoor
open Go.RowKit

set_option maxRecDepth 100000 in
set_option maxHeartbeats 1000000 in
theorem uint64_any (g : Nat) (z0 z1 z2 z3 z4 z5 z6 z7 : Int) (w : World) (c0 : w.cell? ⟨g, 0, none⟩ = some (.int .u8 z0)) (c1 : w.cell? ⟨g, 1, none⟩ = some (.int .u8 z1)) (c2 : w.cell? ⟨g, 2, none⟩ = some (.int .u8 z2)) (c3 : w.cell? ⟨g, 3, none⟩ = some (.int .u8 z3))
    (c4 : w.cell? ⟨g, 4, none⟩ = some (.int .u8 z4)) (c5 : w.cell? ⟨g, 5, none⟩ = some (.int .u8 z5)) (c6 : w.cell? ⟨g, 6, none⟩ = some (.int .u8 z6)) (c7 : w.cell? ⟨g, 7, none⟩ = some (.int .u8 z7))
    (h0 : 0 ≤ z0 ∧ z0 ≤ 255) (h1 : 0 ≤ z1 ∧ z1 ≤ 255) (h2 : 0 ≤ z2 ∧ z2 ≤ 255) (h3 : 0 ≤ z3 ∧ z3 ≤ 255) (h4 : 0 ≤ z4 ∧ z4 ≤ 255) (h5 : 0 ≤ z5 ∧ z5 ≤ 255) (h6 : 0 ≤ z6 ∧ z6 ≤ 255) (h7 : 0 ≤ z7 ∧ z7 ≤ 255) :
    Calls Ybad.prog 10 #[.agg #[], .slice (some ⟨g, 0, none⟩) 8 8] w fun e w' => e = .returned (.int .u64 (z0 + z1 * 256 + z2 * 65536 + z3 * 16777216 + z4 * 4294967296 + z5 * 1099511627776 + z6 * 281474976710656 + z7 * 72057594037927936)) ∧ Below w.heap.size w w' := by
  have hg : g < w.heap.size := World.block_lt_of_cell? _ _ c0
  go_enter Ybad.func10, Ybad.ntmps10
  go_wp2
  go_quiet (fail)
  go_wp2
  go_ret
  refine ⟨?_, ((Below.refl _ w).alloc (Nat.le_refl _) _).trans ⟨rfl, rfl, rfl, Nat.le_refl _, fun _ _ => rfl⟩⟩
  simp (disch := omega) only [u64_or8, u64_or16, u64_or24, u64_or32, u64_or40, u64_or48, u64_or56]
  rfl

theorem pad_bd (zs : List Int) (n : Nat) (hz : ∀ j : Nat, 0 ≤ zs[j]?.getD 0 ∧ zs[j]?.getD 0 ≤ 255) (j : Nat) : 0 ≤ pad zs n j ∧ pad zs n j ≤ 255 := by
  unfold pad
  split
  · exact hz j
  · omega

theorem uint64_pad (g : Nat) (zs : List Int) (n : Nat) (hn : n ≤ 8) (hz : ∀ j : Nat, 0 ≤ zs[j]?.getD 0 ∧ zs[j]?.getD 0 ≤ 255) (w : World) (hc : ∀ j, j < 8 → w.cell? ⟨g, j, none⟩ = some (.int .u8 (pad zs n j))) :
    Calls Ybad.prog 10 #[.agg #[], .slice (some ⟨g, 0, none⟩) 8 8] w fun e w' => e = .returned (.int .u64 (le zs n)) ∧ Below w.heap.size w w' := by
  rw [← le_pad zs n hn]
  exact uint64_any g _ _ _ _ _ _ _ _ w (hc 0 (by decide)) (hc 1 (by decide)) (hc 2 (by decide)) (hc 3 (by decide)) (hc 4 (by decide)) (hc 5 (by decide)) (hc 6 (by decide)) (hc 7 (by decide))
    (pad_bd zs n hz 0) (pad_bd zs n hz 1) (pad_bd zs n hz 2) (pad_bd zs n hz 3) (pad_bd zs n hz 4) (pad_bd zs n hz 5) (pad_bd zs n hz 6) (pad_bd zs n hz 7)

set_option maxRecDepth 100000 in
set_option maxHeartbeats 400000 in
theorem check_short (a0 : Option Addr) (len cap n g : Nat) (en : Int) (w : World) (h : len < n) (_hn : n ≤ 8) (M : Mal w g len unEnd) :
    Calls Ybad.prog 6 #[.slice a0 len cap, .int .i64 n, .int .i64 en, .int .u64 0, .iface 49 (.pointer (some ⟨g, 0, none⟩)), .int .i64 len] w fun e w' => e = .returned (.bool true) ∧ w' = w := by
  have HM : Hid (Mal w g len unEnd) := M
  clear M
  go_enter Ybad.func6, Ybad.ntmps6
  go_wp2_with (go_at_call 9; refine (mal_any _ g len unEnd HM.out).mono ?_; rintro e w' ⟨rfl, rfl⟩)
  go_ret
  exact ⟨rfl, rfl⟩

/-- eight noughts -/
def z8 : Array Value := #[.int .u8 0, .int .u8 0, .int .u8 0, .int .u8 0, .int .u8 0, .int .u8 0, .int .u8 0, .int .u8 0]

/-- the world behind the copy into the eight bytes -/
def cpW (w : World) (zs : List Int) (n : Nat) : World := (w.alloc (.cells z8 45)).drew.setCells w.heap.size 0 (chunk zs 0 n)
theorem cpW_cell (w : World) (zs : List Int) (n : Nat) (hn : n ≤ 8) (j : Nat) (hj : j < 8) : (cpW w zs n).cell? ⟨w.heap.size, j, none⟩ = some (.int .u8 (pad zs n j)) := by
  have z : ∀ i, i < 8 → (w.alloc (.cells z8 45)).drew.cell? ⟨w.heap.size, i, none⟩ = some (.int .u8 0) := by
    intro i hi
    rw [World.cell?_drew, World.cell?_alloc_new]
    have : i = 0 ∨ i = 1 ∨ i = 2 ∨ i = 3 ∨ i = 4 ∨ i = 5 ∨ i = 6 ∨ i = 7 := by omega
    rcases this with rfl | rfl | rfl | rfl | rfl | rfl | rfl | rfl <;> rfl
  unfold pad
  by_cases hjn : j < n
  · have hl : j < (chunk zs 0 n).length := by rw [chunk_len]; exact hjn
    have := World.cell?_setCells_in w.heap.size (chunk zs 0 n) 0 (w.alloc (.cells z8 45)).drew (fun i hi => by rw [chunk_len] at hi; rw [z (0 + i) (by omega)]; rfl) j hl
    rw [Nat.zero_add] at this
    rw [cpW, this, if_pos hjn, (chunk_at zs 0 n j _ (List.getElem?_eq_getElem hl)).2]
    simp
  · rw [cpW, World.cell?_setCells_out _ _ _ _ _ (fun _ _ => Or.inr (by rw [chunk_len]; show 0 + n ≤ j; omega)), if_neg hjn]
    exact z j hj
theorem cpW_below (w : World) (zs : List Int) (n : Nat) : Below w.heap.size w (cpW w zs n) := below_setCells _ (Nat.le_refl _) _ _ _ ((Below.refl _ _).alloc (Nat.le_refl _) _).drew

set_option maxRecDepth 100000 in
set_option maxHeartbeats 1000000 in
theorem check_long_nil (b off len cap n : Nat) (zs : List Int) (en : Int) (w : World) (h : n ≤ len) (hn : n ≤ 8) (hn1 : 1 ≤ n) (hl : len ≤ 1024) (hlc : len ≤ cap) (hen : (n : Int) ≤ en) (hz : ∀ j : Nat, 0 ≤ zs[j]?.getD 0 ∧ zs[j]?.getD 0 ≤ 255)
    (hc : ∀ i, i < len → w.cell? ⟨b, off + i, none⟩ = some (.int .u8 (zs.getD i 0))) :
    Calls Ybad.prog 6 #[.slice (some ⟨b, off, none⟩) len cap, .int .i64 n, .int .i64 en, .int .u64 (le zs n), .nilIface, .int .i64 n] w fun e w' => e = .returned (.bool true) ∧ Below w.heap.size w w' := by
  have hb : b < w.heap.size := World.block_lt_of_cell? _ _ (hc 0 (by omega))
  have S1 : Hid (∀ j v, (chunk zs 0 n)[j]? = some v → (w.alloc (.cells z8 45)).drew.cell? ((⟨b, off, none⟩ : Addr).add j) = some v) := by
    intro j v hj
    obtain ⟨hjc, rfl⟩ := chunk_at _ _ _ _ _ hj
    rw [addr_add, World.cell?_drew, World.cell?_alloc_lt _ _ _ hb, Nat.zero_add]
    exact hc j (by omega)
  have S2 : Hid (∀ j, j < (chunk zs 0 n).length → ((w.alloc (.cells z8 45)).drew.cell? ⟨w.heap.size, 0 + j, none⟩).isSome = true) := by
    intro j hj
    rw [chunk_len] at hj
    rw [World.cell?_drew, World.cell?_alloc_new, Array.getElem?_eq_getElem (by show 0 + j < 8; omega)]; rfl
  have S3 : Hid (∀ j, j < (chunk zs 0 n).length → (w.alloc (.cells z8 45)).drew.frozen? ⟨w.heap.size, 0 + j, none⟩ = false) := by
    intro j _
    rw [World.frozen?_drew, World.frozen?_alloc_new]
  have hmin : Hid ((chunk zs 0 n).length = Nat.min n 8) := by show _ = _; rw [chunk_len]; exact (Nat.min_eq_left (by omega)).symm
  have HZ : Hid (∀ j : Nat, 0 ≤ zs[j]?.getD 0 ∧ zs[j]?.getD 0 ≤ 255) := hz
  have HC : Hid (∀ j, j < 8 → (cpW w zs n).cell? ⟨w.heap.size, j, none⟩ = some (.int .u8 (pad zs n j))) := cpW_cell w zs n hn
  have hnc : n ≤ cap := by omega
  have hx := le_lt64 zs hz n hn
  have hB := cpW_below w zs n
  have HB : Hid (Below w.heap.size w (cpW w zs n)) := hB
  obtain ⟨x, hxe⟩ : ∃ x, le zs n = x := ⟨_, rfl⟩
  have HX : Hid (le zs n = x) := hxe
  rw [hxe] at hx ⊢
  clear hz hc hxe hB
  go_enter Ybad.func6, Ybad.ntmps6
  go_wp2_with fail
  go_region_law (refine step_copy_exact rfl (.tmp 33) (.tmp 36) 22 22 rfl 5 Ybad.underlying22 size5 w.heap.size 0 8 8 ⟨b, off, none⟩ n cap (by simp [Act.eval, Act.put]) (by simp [Act.eval, Act.put]) (chunk zs 0 n) hmin.out S1.out S2.out S3.out (chunk_one zs 0 n) ?_)
  go_wp2_with fail
  go_region_with (go_at_call 10; refine (uint64_pad w.heap.size zs n hn HZ.out (cpW w zs n).drew HC.out).mono ?_; rintro e w2 ⟨rfl, B2⟩; rw [HX.out])
  go_wp2
  go_ret
  exact ⟨rfl, HB.out.drew.trans (B2.mono HB.out.drew.size)⟩

set_option maxRecDepth 100000 in
set_option maxHeartbeats 1000000 in
theorem check_long_past (b off len cap n : Nat) (zs : List Int) (en : Int) (w : World) (h : n ≤ len) (hn : n ≤ 8) (hn1 : 1 ≤ n) (hl : len ≤ 1024) (hlc : len ≤ cap) (hen : en < (n : Int)) (g : Nat) (M : Mal w g en secEnd) (hz : ∀ j : Nat, 0 ≤ zs[j]?.getD 0 ∧ zs[j]?.getD 0 ≤ 255)
    (hc : ∀ i, i < len → w.cell? ⟨b, off + i, none⟩ = some (.int .u8 (zs.getD i 0))) :
    Calls Ybad.prog 6 #[.slice (some ⟨b, off, none⟩) len cap, .int .i64 n, .int .i64 en, .int .u64 (le zs n), .iface 49 (.pointer (some ⟨g, 0, none⟩)), .int .i64 n] w fun e w' => e = .returned (.bool true) ∧ Below w.heap.size w w' := by
  have hb : b < w.heap.size := World.block_lt_of_cell? _ _ (hc 0 (by omega))
  have S1 : Hid (∀ j v, (chunk zs 0 n)[j]? = some v → (w.alloc (.cells z8 45)).drew.cell? ((⟨b, off, none⟩ : Addr).add j) = some v) := by
    intro j v hj
    obtain ⟨hjc, rfl⟩ := chunk_at _ _ _ _ _ hj
    rw [addr_add, World.cell?_drew, World.cell?_alloc_lt _ _ _ hb, Nat.zero_add]
    exact hc j (by omega)
  have S2 : Hid (∀ j, j < (chunk zs 0 n).length → ((w.alloc (.cells z8 45)).drew.cell? ⟨w.heap.size, 0 + j, none⟩).isSome = true) := by
    intro j hj
    rw [chunk_len] at hj
    rw [World.cell?_drew, World.cell?_alloc_new, Array.getElem?_eq_getElem (by show 0 + j < 8; omega)]; rfl
  have S3 : Hid (∀ j, j < (chunk zs 0 n).length → (w.alloc (.cells z8 45)).drew.frozen? ⟨w.heap.size, 0 + j, none⟩ = false) := by
    intro j _
    rw [World.frozen?_drew, World.frozen?_alloc_new]
  have hmin : Hid ((chunk zs 0 n).length = Nat.min n 8) := by show _ = _; rw [chunk_len]; exact (Nat.min_eq_left (by omega)).symm
  have HZ : Hid (∀ j : Nat, 0 ≤ zs[j]?.getD 0 ∧ zs[j]?.getD 0 ≤ 255) := hz
  have HC : Hid (∀ j, j < 8 → (cpW w zs n).cell? ⟨w.heap.size, j, none⟩ = some (.int .u8 (pad zs n j))) := cpW_cell w zs n hn
  have hnc : n ≤ cap := by omega
  have hx := le_lt64 zs hz n hn
  have hB := cpW_below w zs n
  have HB : Hid (Below w.heap.size w (cpW w zs n)) := hB
  obtain ⟨x, hxe⟩ : ∃ x, le zs n = x := ⟨_, rfl⟩
  have HX : Hid (le zs n = x) := hxe
  rw [hxe] at hx ⊢
  have HM : Hid (Mal w g en secEnd) := M
  clear hz hc hxe hB M
  go_enter Ybad.func6, Ybad.ntmps6
  go_wp2_with fail
  go_region_law (refine step_copy_exact rfl (.tmp 33) (.tmp 36) 22 22 rfl 5 Ybad.underlying22 size5 w.heap.size 0 8 8 ⟨b, off, none⟩ n cap (by simp [Act.eval, Act.put]) (by simp [Act.eval, Act.put]) (chunk zs 0 n) hmin.out S1.out S2.out S3.out (chunk_one zs 0 n) ?_)
  go_wp2_with fail
  go_region_with (go_at_call 10; refine (uint64_pad w.heap.size zs n hn HZ.out (cpW w zs n).drew HC.out).mono ?_; rintro e w2 ⟨rfl, B2⟩; rw [HX.out])
  have B3 := HB.out.drew.trans (B2.mono HB.out.drew.size)
  have HM2 : Hid (Mal w2 g en secEnd) := HM.out.later B3
  go_wp2_with (go_at_call 9; refine (mal_any _ g en secEnd HM2.out).mono ?_; rintro e w' ⟨rfl, rfl⟩)
  go_ret
  exact ⟨rfl, HB.out.drew.trans (B2.mono HB.out.drew.size)⟩

/-- copy where nothing goes over, as one step of a region that draws its order -/
theorem step_copy_none {P : Program} {ops : Array Oper} {o : Oper} {a : Act} {w : World} {K : Act → World → Prop} {Q : Exit → Act → World → Prop} {E : Prop} (hgd : o.guard = none) (d s : Operand) (dT sT : TypeId)
    (ho : o.op = .call { callee := .builtin .copy, args := #[d, s], argTypes := #[dT, sT] }) (elem : TypeId) (hu : P.underlying dT = some (.slice elem)) (hsz : (P.info? elem).map (·.size) = some 1)
    (dp sp : Option Addr) (dLen dCap sLen sCap : Nat) (hd : a.eval d = .slice dp dLen dCap) (hs : a.eval s = .slice sp sLen sCap) (hn : Nat.min sLen dLen = 0)
    (h : K (a.put o.dst (goInt 0)) w) :
    if Region.wanted o (yielded ops a.tmps) = true then Oper.wp P o a w K Q else E := by
  have hw : Region.wanted o (yielded ops a.tmps) = true := by simp [Region.wanted, hgd]
  rw [if_pos hw]
  have hrun := run_copy_none (P := P) w dT sT o.type elem dp sp dLen dCap sLen sCap hu hsz hn
  unfold Oper.wp
  simp [execOp, ho, resolve, invoke, builtin, hd, hs, hrun, Result.andThen]
  exact h

set_option maxRecDepth 100000 in
set_option maxHeartbeats 1000000 in
theorem check_zero_nil (a0 : Option Addr) (len cap : Nat) (zs : List Int) (en : Int) (w : World) (_hlc : len ≤ cap) (_hl : len ≤ 1024) (hen : 0 ≤ en) (hz : ∀ j : Nat, 0 ≤ zs[j]?.getD 0 ∧ zs[j]?.getD 0 ≤ 255) :
    Calls Ybad.prog 6 #[.slice a0 len cap, .int .i64 0, .int .i64 en, .int .u64 0, .nilIface, .int .i64 0] w fun e w' => e = .returned (.bool true) ∧ Below w.heap.size w w' := by
  have HZ : Hid (∀ j : Nat, 0 ≤ zs[j]?.getD 0 ∧ zs[j]?.getD 0 ≤ 255) := hz
  have HC : Hid (∀ j, j < 8 → (cpW w zs 0).cell? ⟨w.heap.size, j, none⟩ = some (.int .u8 (pad zs 0 j))) := cpW_cell w zs 0 (by decide)
  have HB : Hid (Below w.heap.size w (cpW w zs 0)) := cpW_below w zs 0
  clear hz
  go_enter Ybad.func6, Ybad.ntmps6
  go_wp2_with fail
  go_region_law (refine step_copy_none rfl (.tmp 33) (.tmp 36) 22 22 rfl 5 Ybad.underlying22 size5 (some ⟨w.heap.size, 0, none⟩) a0 8 8 0 cap (by simp [Act.eval, Act.put]) (by simp [Act.eval, Act.put]) rfl ?_)
  go_wp2_with fail
  go_region_with (go_at_call 10; refine (uint64_pad w.heap.size zs 0 (by decide) HZ.out (cpW w zs 0).drew HC.out).mono ?_; rintro e w2 ⟨rfl, B2⟩; rw [show le zs 0 = 0 from rfl])
  go_wp2
  go_ret
  exact ⟨rfl, HB.out.drew.trans (B2.mono HB.out.drew.size)⟩

set_option maxRecDepth 100000 in
set_option maxHeartbeats 1000000 in
theorem check_zero_past (a0 : Option Addr) (len cap : Nat) (zs : List Int) (en : Int) (w : World) (_hlc : len ≤ cap) (_hl : len ≤ 1024) (hen : en < 0) (g : Nat) (M : Mal w g en secEnd) (hz : ∀ j : Nat, 0 ≤ zs[j]?.getD 0 ∧ zs[j]?.getD 0 ≤ 255) :
    Calls Ybad.prog 6 #[.slice a0 len cap, .int .i64 0, .int .i64 en, .int .u64 0, .iface 49 (.pointer (some ⟨g, 0, none⟩)), .int .i64 0] w fun e w' => e = .returned (.bool true) ∧ Below w.heap.size w w' := by
  have HZ : Hid (∀ j : Nat, 0 ≤ zs[j]?.getD 0 ∧ zs[j]?.getD 0 ≤ 255) := hz
  have HC : Hid (∀ j, j < 8 → (cpW w zs 0).cell? ⟨w.heap.size, j, none⟩ = some (.int .u8 (pad zs 0 j))) := cpW_cell w zs 0 (by decide)
  have HB : Hid (Below w.heap.size w (cpW w zs 0)) := cpW_below w zs 0
  have HM : Hid (Mal w g en secEnd) := M
  clear hz M
  go_enter Ybad.func6, Ybad.ntmps6
  go_wp2_with fail
  go_region_law (refine step_copy_none rfl (.tmp 33) (.tmp 36) 22 22 rfl 5 Ybad.underlying22 size5 (some ⟨w.heap.size, 0, none⟩) a0 8 8 0 cap (by simp [Act.eval, Act.put]) (by simp [Act.eval, Act.put]) rfl ?_)
  go_wp2_with fail
  go_region_with (go_at_call 10; refine (uint64_pad w.heap.size zs 0 (by decide) HZ.out (cpW w zs 0).drew HC.out).mono ?_; rintro e w2 ⟨rfl, B2⟩; rw [show le zs 0 = 0 from rfl])
  have B3 := HB.out.drew.trans (B2.mono HB.out.drew.size)
  have HM2 : Hid (Mal w2 g en secEnd) := HM.out.later B3
  go_wp2_with (go_at_call 9; refine (mal_any _ g en secEnd HM2.out).mono ?_; rintro e w' ⟨rfl, rfl⟩)
  go_ret
  exact ⟨rfl, HB.out.drew.trans (B2.mono HB.out.drew.size)⟩

end Go.Proofs.YbulknaqDoor
