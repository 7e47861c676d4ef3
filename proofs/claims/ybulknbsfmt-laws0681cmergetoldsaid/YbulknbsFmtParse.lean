/-
  parseASPath with numbers of four bytes.
-/
import Derived.Test.YbulknbsFmtEnc
namespace Go.Proofs.YbulknbsFmt
open Go.RowKit

/-- while the bytes are read: 'done' read, 'rest' left -/
structure Ps (base : Nat) (w wr : World) (G capA p : Nat) (v8 : Value) (dn : List (Int × List Int)) (l : List (Int × Value)) : Prop where
  B : Below base w wr
  asn : wr.ownsRow base 42 1 (.slice (some ⟨G, 0, none⟩) p capA) p ((nums dn).map (Value.int .u32))
  seg : wr.ownsRow base 65 2 v8 dn.length (flat l)
  len : l.length = dn.length
  ty : ∀ i, i < dn.length → (l.getD i (0, undef)).1 = (dn.getD i (0, [])).1
  at' : ∀ i, i < dn.length → ∃ o c, (l.getD i (0, undef)).2 = .slice (some ⟨G, o, none⟩) (dn.getD i (0, [])).2.length c ∧ (dn.getD i (0, [])).2.length ≤ c ∧ (0 < (dn.getD i (0, [])).2.length → o = (nums (dn.take i)).length)
  far : v8.ownBlock ≠ some G

/-- what comes back: the path in rows of the call's own; or an error -/
def ParseOut (w : World) (ss : List (Int × List Int)) (tail : List Int) (e : Ending) (w' : World) : Prop :=
  Below w.heap.size w w' ∧ ((tail = [] ∧ ∃ v' l G capA, e = .returned (.tuple #[v', .nilIface]) ∧ Ps w.heap.size w w' G capA (nums ss).length v' ss l) ∨ (tail = [0] ∧ ∃ g, e = .returned (.tuple #[.slice none 0 0, .iface 119 (.pointer (some g))])))

theorem nums_append (a b : List (Int × List Int)) : nums (a ++ b) = nums a ++ nums b := by
  induction a with
  | nil => rfl
  | cons s r ih => simp [nums, ih]

/-- what is left of the bytes behind one segment -/
theorem cut_next {w : World} {b off N1 c1 i : Nat} {s : Int × List Int} {r : List (Int × List Int)} {tail : List Int} (h : NumsAt .u8 w (.slice (some ⟨b, off, none⟩) N1 c1) (enc (s :: r) ++ tail)) (hs : s.2.length = i) :
    NumsAt .u8 w (.slice (if c1 = 2 + i * 4 then some ⟨b, off, none⟩ else some ⟨b, off + (2 + i * 4), none⟩) (N1 - (2 + i * 4)) (c1 - (2 + i * 4))) (enc r ++ tail) := by
  have hN : N1 = (enc (s :: r) ++ tail).length := by
    obtain ⟨_, _, hv, _⟩ := h
    injection hv
  have hc : N1 ≤ c1 := by
    obtain ⟨_, _, hv, hc, _⟩ := h
    injection hv with _ _ e
    omega
  subst hN
  have hb := bytes4_length s.2
  have hd : (enc (s :: r) ++ tail).drop (2 + i * 4) = enc r ++ tail := by
    rw [show 2 + i * 4 = i * 4 + 1 + 1 by omega]
    simp only [enc, List.cons_append, List.drop_succ_cons]
    rw [List.append_assoc, List.drop_append_of_le_length (by omega), List.drop_of_length_le (by omega), List.nil_append]
  have hl : (enc (s :: r) ++ tail).length = 2 + i * 4 + (enc r ++ tail).length := by simp [enc]; omega
  by_cases hcc : c1 = 2 + i * 4
  · have h0 : (enc r ++ tail).length = 0 := by omega
    have h1 : enc r ++ tail = [] := List.eq_nil_of_length_eq_zero h0
    rw [if_pos hcc, h1]
    exact ⟨_, _, by rw [show (enc (s :: r) ++ tail).length - (2 + i * 4) = 0 by omega]; rfl, Nat.zero_le _, (fun h => by cases h), fun h => absurd h (by simp)⟩
  · rw [if_neg hcc, ← hd]
    exact h.drop (by omega)

/-- one segment more -/
theorem Ps.push {base : Nat} {w wo wr w3 : World} {G capA p cnt o c g cap : Nat} {v8 : Value} {dn : List (Int × List Int)} {l : List (Int × Value)} {s : Int × List Int} {O : Obj} (P : Ps base w wo G capA p v8 dn l) (hs : s.2.length = cnt) (hp : p = (nums dn).length)
    (OA : wr.ownsRow base 42 1 (.slice (some ⟨G, 0, none⟩) (p + cnt) capA) (p + cnt) ((nums dn ++ s.2.take cnt).map (Value.int .u32))) (GW : wo.grownBy wr (some G)) (hc : cnt ≤ c) (ho : 0 < cnt → o = p)
    (hown : w3.ownsRow base 65 2 (.slice (some ⟨g, 0, none⟩) (dn.length + 1) cap) (dn.length + 1) (flat l ++ [.int .u8 s.1, .slice (some ⟨G, o, none⟩) cnt c])) (hgrow : (wr.alloc O).grownBy w3 v8.ownBlock) (hat : v8.ownBlock = some g ∨ g = (wr.alloc O).heap.size) :
    Ps base w w3 G capA (p + cnt) (.slice (some ⟨g, 0, none⟩) (dn.length + 1) cap) (dn ++ [s]) (l ++ [(s.1, .slice (some ⟨G, o, none⟩) cnt c)]) := by
  have hG := OA.lt G rfl
  have hl : l.length = dn.length := P.len
  have hsz : base ≤ wr.heap.size := by omega
  have q1 : (l ++ [(s.1, Value.slice (some ⟨G, o, none⟩) cnt c)]).getD dn.length (0, undef) = (s.1, .slice (some ⟨G, o, none⟩) cnt c) := by rw [← hl]; simp
  have q2 : (dn ++ [s]).getD dn.length (0, []) = s := by simp
  have q3 : ∀ i, i < dn.length → (l ++ [(s.1, Value.slice (some ⟨G, o, none⟩) cnt c)]).getD i (0, undef) = l.getD i (0, undef) := fun i hi => by
    have : i < l.length := by omega
    simp [List.getElem?_append_left this]
  have q4 : ∀ i, i < dn.length → (dn ++ [s]).getD i (0, []) = dn.getD i (0, []) := fun i hi => by simp [List.getElem?_append_left hi]
  have split : ∀ i, i < (dn ++ [s]).length → i < dn.length ∨ i = dn.length := fun i hi => by simp at hi; omega
  refine ⟨?_, ?_, ?_, by simp [hl], fun i hi => ?_, fun i hi => ?_, fun e => ?_⟩
  · exact (((P.B.grown GW (by have := P.asn.lt G rfl; omega) (fun k h => by cases h; exact hG.1)).alloc hsz O).grown hgrow (by have := (below_alloc wr O).size; omega) (fun k hk => (P.seg.lt k hk).1))
  · rw [nums_append]
    have := (OA.alloc O).kept hgrow (.inr (fun e => P.far e.symm))
    rw [List.take_of_length_le (by omega)] at this
    simpa [nums] using this
  · rw [flat_append]; simpa [flat] using hown
  · rcases split i hi with e | rfl
    · rw [q3 i e, q4 i e]; exact P.ty i e
    · rw [q1, q2]
  · rcases split i hi with e | rfl
    · rw [q3 i e, q4 i e, List.take_append_of_le_length (by omega)]; exact P.at' i e
    · rw [q1, q2]
      refine ⟨o, c, by rw [hs], by omega, fun h => ?_⟩
      rw [List.take_append_of_le_length (Nat.le_refl _), List.take_length, ho (by omega), hp]
  · have e' : g = G := by simpa [Value.ownBlock] using e
    rcases hat with h1 | h1
    · exact P.far (by rw [h1, e'])
    · have := (below_alloc wr O).size
      omega

def lenV : Value → Nat
  | .slice _ n _ => n
  | _ => 0

set_option maxRecDepth 100000 in
set_option maxHeartbeats 2000000 in
theorem parse_any (v : Value) (ss : List (Int × List Int)) (tail : List Int) (w : World) (h : NumsAt .u8 w v (enc ss ++ tail)) (ht : tail = [] ∨ tail = [0]) (hl : (enc ss ++ tail).length ≤ 100000) (hty : ∀ s ∈ ss, 1 ≤ s.1 ∧ s.1 ≤ 4) (hcn : ∀ s ∈ ss, s.2.length ≤ 255) (hsl : ss.length ≤ 100000) (hnm : ∀ s ∈ ss, ∀ x ∈ s.2, 0 ≤ x ∧ x ≤ 4294967295) :
    Calls Ybaf.prog 22 #[v, .bool false] w fun e w' => ParseOut w ss tail e w' := by
  obtain ⟨i0, hi, hz0, hz1, hz2⟩ := info_parts info42p
  obtain ⟨j0, hj, hy0, hy1, hy2⟩ := info_parts info65p
  obtain ⟨a, c, rfl, hc, hn, hh⟩ := h
  obtain ⟨n, hnn⟩ : ∃ n, (enc ss ++ tail).length = n := ⟨_, rfl⟩
  rw [hnn] at hc hh hl ⊢
  obtain ⟨m, hm⟩ : ∃ m, n / 4 = m := ⟨_, rfl⟩
  have hmI : (n : Int) / 4 = (m : Int) := by omega
  have HN0 : Hid (NumsAt .u8 w (.slice a n c) (enc ss ++ tail)) := ⟨a, c, by rw [hnn], by omega, hn, by rw [hnn]; exact hh⟩
  have HT : Hid (tail = [] ∨ tail = [0]) := ht
  have HTY : Hid (∀ s ∈ ss, 1 ≤ s.1 ∧ s.1 ≤ 4) := hty
  have HCN : Hid (∀ s ∈ ss, s.2.length ≤ 255) := hcn
  have HNM : Hid (∀ s ∈ ss, ∀ x ∈ s.2, 0 ≤ x ∧ x ≤ 4294967295) := hnm
  clear hh ht hty hcn hnm
  go_enter Ybaf.func22, Ybaf.ntmps22
  go_wp2_with (at_make; refine wpList_make_own _ rfl _ _ 58 rfl w.heap.size 42 i0 (.int .u32 0) 1 Ybaf.underlying58 hi hz0 hz1 _ _ _ m rfl rfl rfl ?b2 ?b3 (Nat.le_refl _) ?_)
  case b2 => rw [hz2]; omega
  case b3 => unfold maxLen; omega
  intro w0 hown0 hgrow0
  go_wp2_with fail
  have B0 : Below w.heap.size w w0 := (Below.refl _ _).grown hgrow0 (Nat.le_refl _) (fun k h => by cases h)
  go_loopw [0, 7, 8] (fun sb sa sg wr => ∃ (dn r : List (Int × List Int)) (l : List (Int × Value)) (p : Nat), ss = dn ++ r ∧ p = (nums dn).length ∧ sa = .slice (some ⟨w.heap.size, 0, none⟩) p m ∧ Hid (Ps w.heap.size w wr w.heap.size m p sg dn l) ∧ Hid (NumsAt .u8 w sb (enc r ++ tail)) ∧ (enc r ++ tail).length ≤ 100000 ∧ p + (nums r).length ≤ m) (fun sb _ _ _ => lenV sb)
  case atStart => exact ⟨[], ss, [], 0, rfl, rfl, rfl, ⟨B0, hown0, ⟨rfl, .inl ⟨rfl, rfl⟩⟩, rfl, fun i hi => absurd hi (by simp), fun i hi => absurd hi (by simp), fun e => by cases e⟩, HN0.out, by omega, by have := enc_length ss; simp at hnn; omega⟩
  case round =>
    obtain ⟨dn, r, l, p, hss, hp, rfl, P, N, hbnd, hroom⟩ := hrel
    obtain ⟨wo, hwo⟩ : ∃ x, x = wr := ⟨_, rfl⟩
    subst hwo
    obtain ⟨a1, c1, hv, hc1, hn1, hh1⟩ := N.out
    subst hv
    cases r with
    | nil =>
      rcases HT.out with h0 | h0
      · subst h0
        simp only [enc, List.append_nil, List.length_nil] at *
        go_wp2_with fail
        go_ret2
        have PP := P.out
        rw [hp, ← hss] at PP
        exact ⟨P.out.B, Or.inl ⟨rfl, _, l, w.heap.size, m, rfl, PP⟩⟩
      · subst h0
        simp only [enc, List.nil_append, List.length_cons, List.length_nil] at *
        go_wp2_with fail
        refine (errorf0 wo).mono ?_
        rintro e w4 ⟨⟨g, rfl⟩, B4⟩
        go_wp2_with fail
        go_ret2
        exact ⟨P.out.B.trans (B4.mono P.out.B.size), Or.inr ⟨rfl, g, rfl⟩⟩
    | cons s r =>
      have hlen : (enc (s :: r) ++ tail).length = 2 + s.2.length * 4 + (enc r ++ tail).length := by simp [enc, bytes4_length]; omega
      obtain ⟨b, off, rfl, hx⟩ := hh1 (by omega)
      have hmem : s ∈ ss := by rw [hss]; simp
      obtain ⟨t1, t2⟩ := HTY.out s hmem
      have hcn := HCN.out s hmem
      have hdl : dn.length + 1 ≤ 100000 := by have := congrArg List.length hss; simp at this; omega
      have x0 := hx 0 (by omega)
      have x1 := hx 1 (by omega)
      simp only [enc, List.cons_append, Nat.add_zero] at x0 x1
      replace x0 : wo.cell? ⟨b, off, none⟩ = some (.int .u8 s.1) := cell_later (by simpa using x0) P.out.B
      replace x1 : wo.cell? ⟨b, off + 1, none⟩ = some (.int .u8 (s.2.length : Int)) := cell_later (by simpa using x1) P.out.B
      obtain ⟨cnt, hcnt⟩ : ∃ cnt, s.2.length = cnt := ⟨_, rfl⟩
      obtain ⟨t, ht'⟩ : ∃ t, s.1 = t := ⟨_, rfl⟩
      obtain ⟨R, hR⟩ : ∃ R, (enc r ++ tail).length = R := ⟨_, rfl⟩
      obtain ⟨N1, hN1⟩ : ∃ N1, (enc (s :: r) ++ tail).length = N1 := ⟨_, rfl⟩
      rw [hcnt, hR, hN1] at hlen
      rw [hcnt] at x1 hcn
      rw [ht'] at x0 t1 t2
      rw [hN1] at hc1 N ⊢
      have HX : Hid (∀ i, i < N1 → w.cell? ⟨b, off + i, none⟩ = some (.int .u8 ((enc (s :: r) ++ tail).getD i 0))) := by rw [hN1] at hx; exact hx
      have h01 : 0 < N1 := by omega
      have h11 : 1 < N1 := by omega
      have hN1b : N1 ≤ 100000 := by omega
      have hroom2 : p + cnt + (nums r).length ≤ m := by simp [nums] at hroom; omega
      have HLEN : Hid (N1 = 2 + cnt * 4 + R) := hlen
      have HR : Hid ((enc r ++ tail).length = R) := hR
      have HCNT : Hid (s.2.length = cnt) := hcnt
      have HPP : Hid (p = (nums dn).length) := hp
      have q1 : ¬ t < 1 := by omega
      have q2 : ¬ 4 < t := by omega
      have q3 : ¬ (N1 : Int) - 2 < (cnt : Int) * 4 := by omega
      have h2N : (2 : Int) ≤ (N1 : Int) := by omega
      clear hx hh1 hlen hR hcnt hbnd hp
      go_wp2_with fail
      go_quiet (fail)
      go_wp2_with fail
      go_loopw [60, 7] (fun si sa wq => ∃ i : Nat, i ≤ cnt ∧ si = .int .i64 i ∧ sa = .slice (some ⟨w.heap.size, 0, none⟩) (p + i) m ∧ Hid (wq.ownsRow w.heap.size 42 1 (.slice (some ⟨w.heap.size, 0, none⟩) (p + i) m) (p + i) ((nums dn ++ s.2.take i).map (Value.int .u32))) ∧ wo.grownBy wq (some w.heap.size)) (fun si _ _ => cnt - (intOf si).toNat)
      case atStart => exact ⟨0, Nat.zero_le _, rfl, rfl, (show World.ownsRow _ _ _ _ _ _ _ by have := ownsRow_later P.out.asn (below_drewN wo nq); simpa using this), ⟨rfl, rfl, rfl, Nat.le_refl _, fun _ _ _ => rfl⟩⟩
      case round =>
        obtain ⟨i, hic, rfl, rfl, OA, GW⟩ := hrel
        by_cases hilt : i < cnt
        · have e1 : (2 : Int) + (i : Int) * 4 ≤ (N1 : Int) := by rw [HLEN.out]; omega
          have e2 : ¬ c1 = 2 + i * 4 := by have := HLEN.out; omega
          have BQ : Below w.heap.size w wr := P.out.B.grown GW P.out.B.size (fun k h => by cases h; exact Nat.le_refl _)
          go_wp2_with fail
          have hi2 : i < s.2.length := by rw [HCNT.out]; exact hilt
          have hxv := HNM.out s hmem (s.2.getD i 0) (by simp [hi2])
          have hb4 : ∀ j, j < 4 → wr.cell? ⟨b, off + (2 + i * 4 + j), none⟩ = some (.int .u8 ((be4 (s.2.getD i 0)).getD j 0)) := fun j hj => by
            rw [cell_later (HX.out (2 + i * 4 + j) (by have := HLEN.out; omega)) BQ]
            have hg := bytes4_get s.2 i hi2 j hj
            have hbl := bytes4_length s.2
            have e : 2 + i * 4 + j = (i * 4 + j) + 1 + 1 := by omega
            rw [e]
            simp only [enc, List.cons_append, List.getD_eq_getElem?_getD, List.getElem?_cons_succ]
            rw [List.append_assoc, List.getElem?_append_left (by rw [hbl]; omega), hg, List.getD_eq_getElem?_getD]
          have y0 := hb4 0 (by omega)
          have y1 := hb4 1 (by omega)
          have y2 := hb4 2 (by omega)
          have y3 := hb4 3 (by omega)
          clear hb4
          refine (uint32_any b (off + (2 + i * 4)) _ _ (s.2.getD i 0) wr hxv (by have := HLEN.out; omega) (by omega) y0 y1 y2 y3).mono ?_
          rintro e w2 ⟨rfl, B2⟩
          clear y0 y1 y2 y3
          obtain ⟨x, hx⟩ : ∃ x, s.2.getD i 0 = x := ⟨_, rfl⟩
          have HTK : Hid ((nums dn ++ s.2.take (i + 1)).map (Value.int .u32) = (nums dn ++ s.2.take i).map (Value.int .u32) ++ [.int .u32 x]) := by
            show _ = _
            rw [← hx, List.take_add_one, List.getElem?_eq_getElem hi2, ← List.append_assoc, List.map_append]
            simp [hi2]
          rw [hx]
          have OA1 : Hid ((w2.alloc (.cells #[.int .u32 x] 42)).ownsRow w.heap.size 42 1 (.slice (some ⟨w.heap.size, 0, none⟩) (p + i) m) (p + i) ((nums dn ++ s.2.take i).map (Value.int .u32))) := (ownsRow_later OA.out B2).alloc _
          have GW1 : wo.grownBy (w2.alloc (.cells #[.int .u32 x] 42)) (some w.heap.size) := grown_trans (grown_trans GW B2) (below_alloc _ _)
          have rm : p + i + 1 ≤ m := by omega
          clear hx BQ B2 OA GW
          go_wp2_with (at_builtin; refine wpList_append_fits _ rfl (.tmp 77) (.tmp 81) 58 rfl w.heap.size 42 i0 1 Ybaf.underlying58 hi hz1 w.heap.size (p + i) m _ rfl OA1.out ⟨w2.heap.size, 0, none⟩ 1 1 [.int .u32 x] rfl rfl (cells_fresh _ _ _) (by intro u hu; simp at hu; subst hu; rfl) rm ?_; intro w3 hown hgrow)
          go_wp2_with fail
          go_roundw
          case rel => exact ⟨i + 1, by omega, by go_num, rfl, by rw [HTK.out]; exact hown, GW1.trans hgrow⟩
          case measure => simp [intOf]; omega
        · obtain rfl : i = cnt := by omega
          have b65 := build65
          have hlt8 := P.out.seg.lt
          have SG : Hid (wr.ownsRow w.heap.size 65 2 _ dn.length (flat l)) := P.out.seg.kept GW (.inr (fun e => P.out.far e))
          have hsz0 : w.heap.size ≤ wr.heap.size := by have := P.out.B.size; have := GW.size; omega
          by_cases hz : i = 0
          · subst hz
            go_wp2_with (at_builtin; refine wpList_append_lies _ rfl (.tmp 84) (.tmp 94) 35 rfl w.heap.size 65 j0 (.agg #[.int .u8 0, .slice none 0 0]) 2 32 Ybaf.underlying35 hj hy0 hy1 hy2 rfl (by decide) _ dn.length (flat l) rfl (SG.out.alloc _) ⟨wr.heap.size, 0, none⟩ 1 1 _ rfl rfl (cells_fresh _ _ _) (by intro u hu; simp at hu; rcases hu with rfl | rfl <;> rfl) (by omega) (by unfold maxLen; omega) (by omega) (by simp; omega) _ rfl ?_; intro g cap w3 hown hgrow hat hlt3)
            have PP := P.out.push (s := s) HCNT.out HPP.out OA.out GW (Nat.le_refl 0) (fun h => absurd h (by decide)) (by rw [ht']; exact hown) hgrow hat
            exact ⟨⟨dn ++ [s], r, _, p + 0, by rw [hss]; simp, by rw [nums_append, HPP.out]; simp [nums, HCNT.out], rfl, PP, cut_next N.out HCNT.out, by have := HR.out; have := HLEN.out; omega, hroom2⟩, by simp [lenV]; omega⟩
          · have hz1' : ¬ m = p := by omega
            go_wp2_with (at_builtin; refine wpList_append_lies _ rfl (.tmp 84) (.tmp 94) 35 rfl w.heap.size 65 j0 (.agg #[.int .u8 0, .slice none 0 0]) 2 32 Ybaf.underlying35 hj hy0 hy1 hy2 rfl (by decide) _ dn.length (flat l) rfl (SG.out.alloc _) ⟨wr.heap.size, 0, none⟩ 1 1 _ rfl rfl (cells_fresh _ _ _) (by intro u hu; simp at hu; rcases hu with rfl | rfl <;> rfl) (by omega) (by unfold maxLen; omega) (by omega) (by simp; omega) _ rfl ?_; intro g cap w3 hown hgrow hat hlt3)
            have PP := P.out.push (s := s) HCNT.out HPP.out OA.out GW (Nat.le_refl i) (fun _ => rfl) (by rw [ht']; exact hown) hgrow hat
            exact ⟨⟨dn ++ [s], r, _, p + i, by rw [hss]; simp, by rw [nums_append, HPP.out]; simp [nums, HCNT.out], rfl, PP, cut_next N.out HCNT.out, by have := HR.out; have := HLEN.out; omega, hroom2⟩, by simp [lenV]; omega⟩

theorem nums_get (ss : List (Int × List Int)) (i : Nat) (hi : i < ss.length) (j : Nat) (hj : j < (ss.getD i (0, [])).2.length) : (nums ss)[(nums (ss.take i)).length + j]? = (ss.getD i (0, [])).2[j]? := by
  induction ss generalizing i with
  | nil => simp at hi
  | cons s r ih =>
    cases i with
    | zero =>
      simp only [List.take_zero, nums, List.length_nil, Nat.zero_add]
      rw [List.getElem?_append_left (by simpa using hj)]
      simp
    | succ i =>
      simp only [List.take_succ_cons, nums, List.length_append]
      rw [List.getElem?_append_right (by omega), show s.2.length + (nums (r.take i)).length + j - s.2.length = (nums (r.take i)).length + j by omega]
      have := ih i (by simpa using hi) (by simpa using hj)
      rw [this]
      simp

theorem nums_le (ss : List (Int × List Int)) (i : Nat) (hi : i < ss.length) : (nums (ss.take i)).length + (ss.getD i (0, [])).2.length ≤ (nums ss).length := by
  induction ss generalizing i with
  | nil => simp at hi
  | cons s r ih =>
    cases i with
    | zero => simp [nums]
    | succ i =>
      have := ih i (by simpa using hi)
      simp [nums] at this ⊢
      omega

/-- the path that was read, as a path of the call's own -/
theorem Ps.own {base : Nat} {w wr : World} {G capA p : Nat} {v8 : Value} {ss : List (Int × List Int)} {l : List (Int × Value)} (P : Ps base w wr G capA p v8 ss l) (hp : p = (nums ss).length) : Own base wr v8 ss l := by
  refine ⟨P.seg, P.len, P.ty, fun i hi => ?_, fun i hi b hb => ?_⟩
  · obtain ⟨o, c, hv, hc, ho⟩ := P.at' i hi
    rw [hv]
    refine ⟨_, c, rfl, hc, (fun h => by cases h), fun hpos => ⟨G, o, rfl, fun j hj => ?_⟩⟩
    have hle := nums_le ss i hi
    rw [ho hpos, P.asn.cellAt _ (by omega)]
    simp only [List.getElem?_map]
    rw [nums_get ss i hi j hj]
    obtain ⟨q, hq⟩ : ∃ q, (ss.getD i (0, [])).2 = q := ⟨_, rfl⟩
    rw [hq] at hj ⊢
    simp [hj]
  · obtain ⟨o, c, hv, _⟩ := P.at' i hi
    rw [hv] at hb
    have e : G = b := by simpa [Value.ownBlock] using hb
    subst e
    exact ⟨P.far, (P.asn.lt _ rfl).2⟩

/-- what comes back: the path as the call's own, or an error -/
def PathOut (w : World) (ss : List (Int × List Int)) (tail : List Int) (e : Ending) (w' : World) : Prop :=
  Below w.heap.size w w' ∧ ((tail = [] ∧ ∃ v' l, e = .returned (.tuple #[v', .nilIface]) ∧ Own w.heap.size w' v' ss l) ∨ (tail = [0] ∧ ∃ g, e = .returned (.tuple #[.slice none 0 0, .iface 119 (.pointer (some g))])))

theorem parse_own (v : Value) (ss : List (Int × List Int)) (tail : List Int) (w : World) (h : NumsAt .u8 w v (enc ss ++ tail)) (ht : tail = [] ∨ tail = [0]) (hl : (enc ss ++ tail).length ≤ 100000) (hty : ∀ s ∈ ss, 1 ≤ s.1 ∧ s.1 ≤ 4) (hcn : ∀ s ∈ ss, s.2.length ≤ 255) (hsl : ss.length ≤ 100000) (hnm : ∀ s ∈ ss, ∀ x ∈ s.2, 0 ≤ x ∧ x ≤ 4294967295) :
    Calls Ybaf.prog 22 #[v, .bool false] w fun e w' => PathOut w ss tail e w' :=
  (parse_any v ss tail w h ht hl hty hcn hsl hnm).mono fun _ _ ⟨B, h⟩ => ⟨B, h.imp (fun ⟨h0, v', l, _, _, he, P⟩ => ⟨h0, v', l, he, P.own rfl⟩) id⟩
end Go.Proofs.YbulknbsFmt
