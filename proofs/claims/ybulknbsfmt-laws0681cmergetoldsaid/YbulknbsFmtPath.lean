/-
  zzs0681cpath: the path is copied, its types brought into range.
-/
import Derived.Test.YbulknbsFmtOwn
namespace Go.Proofs.YbulknbsFmt
open Go.RowKit

/-- a segment as the law takes it -/
def norm (s : Int × List Int) : Int × List Int := (s.1 % 4 + 1, s.2)

theorem take_norm (ss : List (Int × List Int)) (k : Nat) (t : Int) (hk : k < ss.length) (h : (ss.getD k (0, [])).1 = t) : (ss.take (k + 1)).map norm = (ss.take k).map norm ++ [(t % 4 + 1, (ss.getD k (0, [])).2)] := by
  have e : ss.getD k (0, []) = ss[k] := by simp [hk]
  rw [e] at h ⊢
  rw [List.take_add_one, List.map_append, List.getElem?_eq_getElem hk]
  simp only [Option.toList_some, List.map_cons, List.map_nil, norm, h]

theorem NumsAt.drew {k : IntKind} {w : World} {v : Value} {xs : List Int} (h : NumsAt k w v xs) : NumsAt k w.drew v xs := h.later ((Below.refl _ _).drew)

theorem cells_fresh (w : World) (cs : Array Value) (t : TypeId) : ∀ j u, cs.toList[j]? = some u → (w.alloc (.cells cs t)).cell? ((⟨w.heap.size, 0, none⟩ : Addr).add j) = some u := fun j u hu => by
  have hadd : (⟨w.heap.size, 0, none⟩ : Addr).add j = ⟨w.heap.size, j, none⟩ := by unfold Addr.add; split <;> simp_all
  rw [hadd, World.cell?_alloc_at _ _ _ _ rfl]
  simpa using hu
theorem below_alloc (w : World) (o : Obj) : Below w.heap.size w (w.alloc o) := (Below.refl _ _).alloc (Nat.le_refl _) _
theorem below_drew (w : World) : Below w.heap.size w w.drew := (Below.refl _ _).drew

set_option maxRecDepth 100000 in
set_option maxHeartbeats 1000000 in
theorem cpath_any (v : Value) (ss : List (Int × List Int)) (w : World) (h : SegsAt w v ss) (hl : ss.length ≤ 100000) (hs : ∀ i, (ss.getD i (0, [])).2.length ≤ 100000) (ht : ∀ i, 0 ≤ (ss.getD i (0, [])).1 ∧ (ss.getD i (0, [])).1 ≤ 255) :
    Calls Ybaf.prog 18 #[v] w fun e w' => ∃ v' l, e = .returned v' ∧ Own w.heap.size w' v' (ss.map norm) l ∧ Below w.heap.size w w' := by
  obtain ⟨i0, hi, hz0, hz1, hz2⟩ := info_parts info65p
  obtain ⟨a, c, rfl, hc, hn, hh⟩ := h
  obtain ⟨n, hnn⟩ : ∃ n, ss.length = n := ⟨_, rfl⟩
  rw [hnn] at hc hh hl ⊢
  have HN : Hid (ss.length = n) := hnn
  have H : Hid (0 < n → ∃ b off, a = some ⟨b, off, none⟩ ∧ ∀ i, i < n → w.cell? ⟨b, off + i * 2, none⟩ = some (.int .u8 (ss.getD i (0, [])).1) ∧ ∃ a' n' c', w.cell? ⟨b, off + i * 2 + 1, none⟩ = some (.slice a' n' c') ∧ NumsAt .u32 w (.slice a' n' c') (ss.getD i (0, [])).2) := hh
  have HS : Hid (∀ i, (ss.getD i (0, [])).2.length ≤ 100000) := hs
  have HT : Hid (∀ i, 0 ≤ (ss.getD i (0, [])).1 ∧ (ss.getD i (0, [])).1 ≤ 255) := ht
  clear hh hnn hs ht
  have b65 := build65
  go_enter Ybaf.func18, Ybaf.ntmps18
  go_wp2_with (at_make; refine wpList_make_own _ rfl _ _ 35 rfl w.heap.size 65 i0 (.agg #[.int .u8 0, .slice none 0 0]) 2 Ybaf.underlying35 hi hz0 hz1 _ _ _ n rfl rfl rfl ?b2 ?b3 (Nat.le_refl _) ?_)
  case b2 => rw [hz2]; omega
  case b3 => unfold maxLen; omega
  intro w0 hown0 hgrow0
  go_wp2
  go_loopw [3, 11] (fun out si wr => ∃ (k : Nat) (l : List (Int × Value)), k ≤ n ∧ si = .int .i64 k ∧ Hid (Own w.heap.size wr out ((ss.take k).map norm) l) ∧ Below w.heap.size w wr) (fun _ si _ => n - (intOf si).toNat)
  case atStart => exact ⟨0, [], Nat.zero_le _, rfl, ⟨by simpa [flat] using hown0, rfl, fun i hi => absurd hi (by simp), fun i hi => absurd hi (by simp), fun i hi => absurd hi (by simp)⟩, (Below.refl _ _).grown hgrow0 (Nat.le_refl _) (fun k h => by cases h)⟩
  case round =>
    obtain ⟨k, l, hk, rfl, O, B⟩ := hrel
    by_cases hlt : k < n
    · obtain ⟨b, off, rfl, hx⟩ := H.out (by omega)
      obtain ⟨d1, a', n', c', d2, N⟩ := hx k hlt
      have y := HT.out k
      have z := HS.out k
      replace d1 := cell_later d1 B
      replace d2 := cell_later d2 B
      have N1 : Hid (NumsAt .u32 wr (.slice a' n' c') (ss.getD k (0, [])).2) := N.later B
      obtain ⟨t, htt⟩ : ∃ t : Nat, (ss.getD k (0, [])).1 = (t : Int) := ⟨(ss.getD k (0, [])).1.toNat, by omega⟩
      rw [htt] at d1 y
      have HTT : Hid ((ss.getD k (0, [])).1 = (t : Int)) := htt
      have hlen : ((ss.take k).map norm).length = k := by simp [HN.out]; omega
      clear N hx htt
      have s0 : (wr.alloc (.cells #[.int .u8 t, .slice a' n' c'] 71)).cell? ⟨wr.heap.size, 0, none⟩ = some (.int .u8 t) := World.cell?_alloc_at _ _ _ _ rfl
      have s1 : (wr.alloc (.cells #[.int .u8 t, .slice a' n' c'] 71)).cell? ⟨wr.heap.size, 1, none⟩ = some (.slice a' n' c') := World.cell?_alloc_at _ _ _ _ rfl
      have s0d : (wr.alloc (.cells #[.int .u8 t, .slice a' n' c'] 71)).drew.cell? ⟨wr.heap.size, 0, none⟩ = some (.int .u8 t) := s0
      have s1d : (wr.alloc (.cells #[.int .u8 t, .slice a' n' c'] 71)).drew.cell? ⟨wr.heap.size, 1, none⟩ = some (.slice a' n' c') := s1
      have N2 : Hid (NumsAt .u32 (wr.alloc (.cells #[.int .u8 t, .slice a' n' c'] 71)).drew (.slice a' n' c') (ss.getD k (0, [])).2) := (N1.out.later (below_alloc _ _)).drew
      have OW := ownsRow_later O.out.own (((below_alloc wr (.cells #[.int .u8 t, .slice a' n' c'] 71)).drew))
      rw [hlen] at OW
      have HOW : Hid _ := OW
      have hbl : ∀ g, Value.ownBlock _ = some g → w.heap.size ≤ g ∧ g < wr.heap.size := O.out.own.lt
      have HBL : Hid _ := hbl
      clear OW hbl
      go_wp2_with fail
      go_region_held_law (fun w' => w'.cell? ⟨wr.heap.size, 0, none⟩ = some (.int .u8 t) ∧ w'.cell? ⟨wr.heap.size, 1, none⟩ = some (.slice a' n' c'))
        (first
          | exact ⟨s0d, s1d⟩
          | exact ⟨cell_later s0d B2, cell_later s1d B2⟩
          | exact ⟨cell_later (cell_later s0d B2) (below_alloc _ _), cell_later (cell_later s1d B2) (below_alloc _ _)⟩
          | exact ⟨grown_cell hgrow (cell_later (cell_later s0d B2) (below_alloc _ _)) (fun e => by have := HBL.out _ e; omega), grown_cell hgrow (cell_later (cell_later s1d B2) (below_alloc _ _)) (fun e => by have := HBL.out _ e; omega)⟩)
        (first
          | (go_at_call 13; refine (cty_any t (by omega) _).mono ?_; rintro e w' ⟨rfl, rfl⟩)
          | (go_at_call 15; refine (clone58 _ _ _ N2.out z).mono ?_; rintro e w2 ⟨v2, rfl, ⟨a2, c2, rfl, N3⟩, B2, hfar⟩)
          | (refine step_append_lies _ rfl (.tmp 15) (.tmp 23) 35 rfl w.heap.size 65 i0 (.agg #[.int .u8 0, .slice none 0 0]) 2 32 Ybaf.underlying35 hi hz0 hz1 hz2 rfl (by decide) _ k (flat l) rfl ((ownsRow_later HOW.out B2).alloc _) ⟨w2.heap.size, 0, none⟩ 1 1 _ rfl rfl (cells_fresh _ _ _) (by intro u hu; simp at hu; rcases hu with rfl | rfl <;> rfl) (by omega) (by unfold maxLen; omega) (by omega) (by have := B2.size; have := B.size; simp at *; omega) _ rfl ?_; intro g cap w3 hown hgrow hat hlt3))
      have O2 := (O.out.later ((below_alloc wr (.cells #[.int .u8 t, .slice a' n' c'] 71)).drew)).later B2
      have hsz : wr.heap.size < (wr.alloc (.cells #[.int .u8 t, .slice a' n' c'] 71)).drew.heap.size := World.block_lt_of_cell? _ _ s0d
      have P := (O2.later (below_alloc w2 _)).push (NumsAt.later ⟨a2, c2, rfl, N3⟩ (below_alloc w2 _)) (fun b hb => ⟨fun e => by have h1 := (hfar b hb).1; have h2 := (HBL.out b e).2; omega, Nat.lt_of_lt_of_le (hfar b hb).2 (below_alloc w2 _).size⟩) hlen hown hgrow hat
      have BW : Below w.heap.size w w3 := (B.trans (((below_alloc wr (.cells #[.int .u8 t, .slice a' n' c'] 71)).drew).mono B.size)).trans ((B2.mono (by have := B.size; omega)).trans (((below_alloc w2 _).mono (by have := B2.size; have := B.size; omega)).grown hgrow (by have := B2.size; have := B.size; have := (below_alloc w2 (.cells #[] 65)).size; simp at *; omega) (fun g hg => (HBL.out g hg).1)))
      have HP : Hid _ := P
      clear O2 P hown hgrow hat N3 B2 hfar HOW HBL O
      go_wp2_with fail
      go_roundw
      case rel =>
        refine ⟨k + 1, l ++ [((t : Int) % 4 + 1, .slice a2 (ss.getD k (0, [])).2.length c2)], by omega, by go_num, ?_, BW⟩
        rw [take_norm ss k t (by rw [HN.out]; exact hlt) HTT.out]
        exact HP.out
      case measure => simp [intOf]; omega
    · obtain rfl : k = n := by omega
      go_wp2_with fail
      go_ret
      exact ⟨_, l, rfl, by have := O.out; rwa [List.take_of_length_le (by rw [HN.out]; exact Nat.le_refl _)] at this, B⟩
end Go.Proofs.YbulknbsFmt
