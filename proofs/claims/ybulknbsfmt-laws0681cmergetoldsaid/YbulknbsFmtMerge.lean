/-
  asPathParts.merge.
-/
import Derived.Test.YbulknbsFmtParse
import Derived.Test.YbulknbsFmtReagg
namespace Go.Proofs.YbulknbsFmt
open Go.RowKit

/-- the leading part that is kept -/
def keep : Nat → List (Int × List Int) → List (Int × List Int)
  | _, [] => []
  | need, s :: r => if conf s then s :: keep need r else if need = 0 then [] else if s.1 = 1 then s :: keep (need - 1) r else (s.1, s.2.take need) :: keep (need - min need s.2.length) r

theorem drop_getD (ss : List (Int × List Int)) (k : Nat) (hk : k < ss.length) : ss.drop k = ss.getD k (0, []) :: ss.drop (k + 1) := by
  rw [List.drop_eq_getElem_cons hk]
  simp [hk]

/-- the merged path -/
def merged (path as4 : List (Int × List Int)) : List (Int × List Int) := if plen path < plen as4 then path else keep (plen path - plen as4) path ++ as4

theorem NumsAt.take {k : IntKind} {w : World} {a : Option Addr} {n c m c' : Nat} {xs : List Int} (h : NumsAt k w (.slice a n c) xs) (hm : m ≤ n) (hc : m ≤ c') (hn : a = none → c' = 0) : NumsAt k w (.slice a m c') (xs.take m) := by
  obtain ⟨a1, c1, hv, hcc, _, hh⟩ := h
  injection hv with h1 h2 h3
  subst h1 h2 h3
  have hl : (xs.take m).length = m := by simp; omega
  refine ⟨_, c', by rw [hl], by omega, hn, fun hp => ?_⟩
  obtain ⟨b, off, rfl, hx⟩ := hh (by omega)
  refine ⟨b, off, rfl, fun i hi => ?_⟩
  rw [hl] at hi
  rw [hx i (by omega)]
  simp [hi]

/-- a path behind another -/
theorem Own.append {base b4 : Nat} {w w1 : World} {v v4 : Value} {ss s4 : List (Int × List Int)} {l l4 : List (Int × Value)} {g cap k m : Nat} (h : Own base w v ss l) (h4 : Own b4 w v4 s4 l4)
    (hsep : ∀ i, i < s4.length → ∀ b, (l4.getD i (0, undef)).2.ownBlock = some b → v.ownBlock ≠ some b)
    (hk : ss.length = k) (hm : s4.length = m) (ho : w1.ownsRow base 65 2 (.slice (some ⟨g, 0, Option.none⟩) (k + m) cap) (k + m) (flat l ++ flat l4)) (hg : w.grownBy w1 v.ownBlock) (hat : v.ownBlock = some g ∨ g = w.heap.size) :
    Own base w1 (.slice (some ⟨g, 0, Option.none⟩) (k + m) cap) (ss ++ s4) (l ++ l4) := by
  have far : ∀ b, v.ownBlock ≠ some b → b < w.heap.size → (Value.slice (some ⟨g, 0, Option.none⟩) (k + m) cap).ownBlock ≠ some b ∧ b < w1.heap.size := fun b hb hb2 => by
    refine ⟨fun e => ?_, Nat.lt_of_lt_of_le hb2 hg.size⟩
    have e' : g = b := by simpa [Value.ownBlock] using e
    rcases hat with h1 | h1
    · exact hb (by rw [h1, e'])
    · omega
  have hl : l.length = ss.length := h.len
  have hl4 : l4.length = s4.length := h4.len
  have q1 : ∀ i, i < ss.length → (l ++ l4).getD i (0, undef) = l.getD i (0, undef) := fun i hi => by
    have : i < l.length := by omega
    simp [List.getElem?_append_left this]
  have q2 : ∀ i, i < ss.length → (ss ++ s4).getD i (0, []) = ss.getD i (0, []) := fun i hi => by simp [List.getElem?_append_left hi]
  have q3 : ∀ i, ss.length ≤ i → (l ++ l4).getD i (0, undef) = l4.getD (i - ss.length) (0, undef) := fun i hi => by
    have : l.length ≤ i := by omega
    simp [List.getElem?_append_right this, hl]
  have q4 : ∀ i, ss.length ≤ i → (ss ++ s4).getD i (0, []) = s4.getD (i - ss.length) (0, []) := fun i hi => by simp [List.getElem?_append_right hi]
  have split : ∀ i, i < (ss ++ s4).length → i < ss.length ∨ (ss.length ≤ i ∧ i - ss.length < s4.length) := fun i hi => by simp at hi; omega
  refine ⟨by rw [flat_append]; simpa [hk, hm] using ho, by simp [hl, hl4], fun i hi => ?_, fun i hi => ?_, fun i hi b hbb => ?_⟩
  · rcases split i hi with e | ⟨e, e2⟩
    · rw [q1 i e, q2 i e]; exact h.ty i e
    · rw [q3 i e, q4 i e]; exact h4.ty _ e2
  · rcases split i hi with e | ⟨e, e2⟩
    · rw [q1 i e, q2 i e]; exact (h.num i e).grown hg (fun b hb => (h.sep i e b hb).1)
    · rw [q3 i e, q4 i e]; exact (h4.num _ e2).grown hg (fun b hb => hsep _ e2 b hb)
  · rcases split i hi with e | ⟨e, e2⟩
    · rw [q1 i e] at hbb; exact far b (h.sep i e b hbb).1 (h.sep i e b hbb).2
    · rw [q3 i e] at hbb; exact far b (hsep _ e2 b hbb) (h4.sep _ e2 b hbb).2

theorem keep_conf {need : Nat} {s : Int × List Int} {r : List (Int × List Int)} (h : conf s = true) : keep need (s :: r) = s :: keep need r := by simp [keep, h]
theorem keep_zero {s : Int × List Int} {r : List (Int × List Int)} (h : conf s = false) : keep 0 (s :: r) = [] := by simp [keep, h]
theorem keep_one {need : Nat} {s : Int × List Int} {r : List (Int × List Int)} (h : conf s = false) (hn : need ≠ 0) (h1 : s.1 = 1) : keep need (s :: r) = s :: keep (need - 1) r := by simp [keep, h, hn, h1]
theorem keep_seq {need : Nat} {s : Int × List Int} {r : List (Int × List Int)} (h : conf s = false) (hn : need ≠ 0) (h1 : s.1 ≠ 1) : keep need (s :: r) = (s.1, s.2.take (min need s.2.length)) :: keep (need - min need s.2.length) r := by
  simp only [keep, h, hn, h1, if_false, Bool.false_eq_true]
  congr 2
  rcases Nat.le_total need s.2.length with e | e
  · rw [Nat.min_eq_left e]
  · rw [Nat.min_eq_right e, List.take_length, List.take_of_length_le e]

theorem flat_oneCell (l : List (Int × Value)) (h : ∀ p ∈ l, p.2.oneCell' = true) : ∀ u ∈ flat l, u.oneCell' = true := by
  induction l with
  | nil => intro u hu; simp [flat] at hu
  | cons p r ih =>
    intro u hu
    simp only [flat, List.mem_cons] at hu
    rcases hu with rfl | rfl | hu
    · rfl
    · exact h p (by simp)
    · exact ih (fun p hp => h p (by simp [hp])) u hu
theorem Own.oneCell {base : Nat} {w : World} {v : Value} {ss : List (Int × List Int)} {l : List (Int × Value)} (h : Own base w v ss l) : ∀ u ∈ flat l, u.oneCell' = true := by
  refine flat_oneCell l fun p hp => ?_
  obtain ⟨i, hi, rfl⟩ := List.getElem_of_mem hp
  obtain ⟨a, c, hv, _⟩ := h.num i (by rw [← h.len]; exact hi)
  have e : l.getD i (0, undef) = l[i] := by simp [hi]
  rw [← e, hv]
  rfl
/-- one segment of a path of the call's own, as its row holds it -/
theorem Own.cellsAt {base : Nat} {w : World} {a : Option Addr} {n c : Nat} {ss : List (Int × List Int)} {l : List (Int × Value)} (h : Own base w (.slice a n c) ss l) (k : Nat) (hk : k < ss.length) :
    ∃ g, a = some ⟨g, 0, Option.none⟩ ∧ w.cell? ⟨g, k * 2, Option.none⟩ = some (.int .u8 (ss.getD k (0, [])).1) ∧ ∃ a' n' c', w.cell? ⟨g, k * 2 + 1, Option.none⟩ = some (.slice a' n' c') ∧ NumsAt .u32 w (.slice a' n' c') (ss.getD k (0, [])).2 ∧ ∀ b, (Value.slice a' n' c').ownBlock = some b → b < w.heap.size := by
  rcases h.own.2 with ⟨_, h0⟩ | ⟨g, cap, cur, hv, _⟩
  · omega
  · have ho := h.own
    rw [hv] at ho
    injection hv with h1 h2 h3
    have hl := h.len
    have c0 := ho.cellAt (k * 2) (by omega)
    have c1 := ho.cellAt (k * 2 + 1) (by omega)
    rw [flat_0 l k (by omega), h.ty k hk] at c0
    rw [flat_1 l k (by omega)] at c1
    have hn := h.num k hk
    obtain ⟨a', c', hv', hr⟩ := hn
    refine ⟨g, h1, c0, a', _, c', by rw [c1, hv'], ⟨a', c', rfl, hr⟩, fun b hb => (h.sep k hk b (by rw [hv']; exact hb)).2⟩
/-- the row's cells, for an append of the whole path -/
theorem Own.news {base : Nat} {w : World} {a : Option Addr} {n c : Nat} {ss : List (Int × List Int)} {l : List (Int × Value)} (h : Own base w (.slice a n c) ss l) : ∀ ad, a = some ad → ∀ j u, (flat l)[j]? = some u → w.cell? (ad.add j) = some u := by
  intro ad ha j u hu
  rcases h.own.2 with ⟨hv, _⟩ | ⟨g, cap, cur, hv, _⟩
  · injection hv with h1; rw [h1] at ha; cases ha
  · injection hv with h1 h2 h3
    rw [h1] at ha
    cases ha
    exact h.own.cells (g := g) (by rw [h1]; rfl) j u hu

theorem ownBlock_same {a : Option Addr} {n c n' c' b : Nat} (h : (Value.slice a n c).ownBlock = some b) : (Value.slice a n' c').ownBlock = some b := by
  cases a with
  | none => cases h
  | some x => exact h

/-- one more kept -/
theorem keep_step {M q cap : Nat} {w6 wr w8 w9 : World} {acc : List (Int × List Int)} {l : List (Int × Value)} {t : Int} {xs : List Int} {a1 : Option Addr} {n1 c1 : Nat} {C : Obj} (O : Own M wr (.slice (some ⟨M, 0, none⟩) q cap) acc l) (hq : acc.length = q) (B : Below M w6 wr) (hM : M ≤ w6.heap.size) (B8 : Below wr.heap.size wr w8) (N : NumsAt .u32 wr (.slice a1 n1 c1) xs) (hb : ∀ b, (Value.slice a1 n1 c1).ownBlock = some b → b < M)
    (hown : w9.ownsRow M 65 2 (.slice (some ⟨M, 0, none⟩) (q + 1) cap) (q + 1) (flat l ++ [.int .u8 t, .slice a1 n1 c1])) (hgrow : (w8.alloc C).grownBy w9 (some M)) :
    Own M w9 (.slice (some ⟨M, 0, none⟩) (q + 1) cap) (acc ++ [(t, xs)]) (l ++ [(t, .slice a1 n1 c1)]) ∧ Below M w6 w9 := by
  have hs1 := B.size
  have hs2 := B8.size
  have B9 : Below wr.heap.size wr (w8.alloc C) := B8.trans ((below_alloc w8 C).mono hs2)
  have hs3 := B9.size
  refine ⟨(O.later B9).push (N.later B9) (fun b hbb => ⟨fun e => ?_, ?_⟩) hq hown hgrow (.inl rfl), ?_⟩
  · have e' : M = b := by simpa [Value.ownBlock] using e
    have := hb b hbb
    omega
  · have := hb b hbb
    omega
  · exact (B.trans (B9.mono (by omega))).grown hgrow (by omega) (fun k h => by cases h; exact Nat.le_refl _)

/-- what comes back -/
def MergeOut (w : World) (res : List (Int × List Int)) (e : Ending) (w' : World) : Prop := ∃ v', e = .returned v' ∧ SegsAt w' v' res ∧ Below w.heap.size w w'

set_option maxRecDepth 100000 in
set_option maxHeartbeats 2000000 in
theorem merge_some (Pb : Nat) (ad : Addr) (nb cb : Nat) (v2 v3 vp : Value) (ag ag4 tail : List Int) (ss path : List (Int × List Int)) (pb : Nat) (lp : List (Int × Value)) (w : World)
    (p1 : w.cell? ⟨Pb, 1, none⟩ = some (.slice (some ad) nb cb)) (p2 : w.cell? ⟨Pb, 2, none⟩ = some v2) (p3 : w.cell? ⟨Pb, 3, none⟩ = some v3) (h1 : NumsAt .u8 w (.slice (some ad) nb cb) (enc ss ++ tail)) (h2 : NumsAt .u8 w v2 ag) (h3 : NumsAt .u8 w v3 ag4) (hag : ∀ i, 0 ≤ ag.getD i 0 ∧ ag.getD i 0 ≤ 255)
    (ht : tail = [] ∨ tail = [0]) (hl : (enc ss ++ tail).length ≤ 100000) (hty : ∀ s ∈ ss, 1 ≤ s.1 ∧ s.1 ≤ 4) (hcn : ∀ s ∈ ss, s.2.length ≤ 255) (hsl : ss.length ≤ 10000) (hnm : ∀ s ∈ ss, ∀ x ∈ s.2, 0 ≤ x ∧ x ≤ 4294967295)
    (OP : Own pb w vp path lp) (hpl : path.length ≤ 10000) (hpp : plen path ≤ 100000) (hp4 : plen (ss.filter ncs) ≤ 100000) :
    Calls Ybaf.prog 17 #[.pointer (some ⟨Pb, 0, none⟩), vp] w fun e w' => MergeOut w (if reagg ag ag4 || tail == [0] then path else merged path (ss.filter ncs)) e w' := by
  have q22 : ∀ (w : World) (a : Option Addr) (n c n' c' : Nat), (binOp .eql 22 (.slice a n c) (.slice none n' c')).run Ybaf.prog w = .ok (.bool a.isNone) w := fun w a n c n' c' => Lib.run_eql_slice_nil w _ _ a n c n' c' Ybaf.underlying22
  have CR := reagg_any Pb v2 v3 ag ag4 w p2 p3 h2 h3 hag
  have HCR : Hid _ := CR
  have HP : Hid (∀ w', Below w.heap.size w w' → Calls Ybaf.prog 22 #[.slice (some ad) nb cb, .bool false] w' fun e w'' => PathOut w' ss tail e w'') := fun w' B => parse_own _ ss tail w' (h1.later B) ht hl hty hcn (by omega) hnm
  have HOP : Hid (Own pb w vp path lp) := OP
  obtain ⟨ap, cp, hvp, hcp, hnp, -⟩ := OP.segs
  obtain ⟨np, hnpl⟩ : ∃ n, path.length = n := ⟨_, rfl⟩
  rw [hnpl] at hvp hcp hpl
  subst hvp
  have HNP : Hid (path.length = np) := hnpl
  have HFL : Hid ((ss.filter ncs).length ≤ ss.length) := List.length_filter_le _ _
  have HT : Hid (tail = [] ∨ tail = [0]) := ht
  obtain ⟨s4, hs4⟩ : ∃ s4, ss.filter ncs = s4 := ⟨_, rfl⟩
  have HS4 : Hid (ss.filter ncs = s4) := hs4
  rw [hs4] at HFL hp4 ⊢
  obtain ⟨rg, hrg⟩ : ∃ r, reagg ag ag4 = r := ⟨_, rfl⟩
  rw [hrg] at HCR ⊢
  clear CR hs4 h1 h2 h3 p2 p3 hag ht hty hcn hnm hrg hnpl OP
  obtain ⟨j0, hj, hy0, hy1, hy2⟩ := info_parts info65p
  go_enter Ybaf.func17, Ybaf.ntmps17
  go_wp2_with fail
  refine Calls.mono HCR.out ?_
  rintro e w2 ⟨rfl, B2⟩
  have p1' := cell_later p1 B2
  clear p1 HCR
  cases rg with
  | true =>
    go_wp2_with fail
    go_ret
    exact ⟨_, rfl, HOP.out.segs.later B2, B2⟩
  | false =>
    go_wp2_with fail
    refine (HP.out w2 B2).mono ?_
    rintro e w3 ⟨B3, ⟨rfl, v4, l4, rfl, O4⟩ | ⟨rfl, g, rfl⟩⟩
    · have B23 : Below w.heap.size w w3 := B2.trans (B3.mono B2.size)
      have hb4 := O4.own.lt
      have CD := delete_any w2.heap.size v4 ss l4 w3 O4 (by omega)
      rw [HS4.out] at CD
      have HCD : Hid _ := CD
      clear HP CD O4 p1'
      go_wp2_with fail
      refine Calls.mono HCD.out ?_
      rintro e w4 ⟨v5, l5, rfl, O5, G4, _⟩
      have B4 : Below w.heap.size w w4 := B23.grown G4 B23.size (fun k hk => Nat.le_trans B2.size (hb4 k hk).1)
      have S1 := pathLength_any (.slice ap np cp) path w4 (HOP.out.segs.later B4) (by rw [HNP.out]; omega) hpp
      have HS1 : Hid _ := S1
      have S2 : Hid (∀ w5, Below w4.heap.size w4 w5 → Calls Ybaf.prog 33 #[v5] w5 fun e w' => e = .returned (.int .i64 (plen s4)) ∧ Below w5.heap.size w5 w') := fun w5 B5 => pathLength_any v5 s4 w5 (O5.segs.later B5) (Nat.le_trans HFL.out (by omega)) hp4
      have HO5 : Hid (Own w2.heap.size w4 v5 s4 l5) := O5
      obtain ⟨a5, c5, hv5, hc5, hn5, -⟩ := O5.segs
      have hf5 : s4.length ≤ ss.length := HFL.out
      obtain ⟨n5, hn5l⟩ : ∃ n, s4.length = n := ⟨_, rfl⟩
      rw [hn5l] at hv5 hc5 hf5
      subst hv5
      have HN5 : Hid (s4.length = n5) := hn5l
      clear S1 G4 hb4 B3 B23 HCD O5 hn5l
      go_wp2_with fail
      refine Calls.mono HS1.out ?_
      rintro e w5 ⟨rfl, B5⟩
      have S2' := S2.out w5 B5
      have HS2 : Hid _ := S2'
      clear S2 S2' HS1
      go_wp2_with fail
      refine Calls.mono HS2.out ?_
      rintro e w6 ⟨rfl, B6⟩
      clear HS2
      have B46 : Below w4.heap.size w4 w6 := B5.trans (B6.mono B5.size)
      have B06 : Below w.heap.size w w6 := B4.trans (B46.mono B4.size)
      have HOP6 : Hid (Own pb w6 (.slice ap np cp) path lp) := HOP.out.later B06
      have HO6 : Hid (Own w2.heap.size w6 (.slice a5 n5 c5) s4 l5) := HO5.out.later B46
      clear HO5 HOP B4 B5 B6 B46
      by_cases hlt : plen path < plen s4
      · have g1 : (plen path : Int) - (plen s4 : Int) < 0 := by omega
        have hm : merged path s4 = path := by unfold merged; rw [if_pos hlt]
        clear hlt
        go_wp2_with fail
        go_ret
        refine ⟨_, rfl, ?_, B06⟩
        exact HOP6.out.segs
      · obtain ⟨nd, hnd⟩ : ∃ nd : Nat, plen path - plen s4 = nd := ⟨_, rfl⟩
        have hndi : (plen path : Int) - (plen s4 : Int) = (nd : Int) := by omega
        have hm : merged path s4 = keep nd path ++ s4 := by unfold merged; rw [if_neg hlt, hnd]
        have HM : Hid (merged path s4 = keep nd path ++ s4) := hm
        have hndb : nd ≤ 100000 := by omega
        clear hlt hnd hm
        go_wp2_with (at_make; refine wpList_make_own _ rfl _ _ 35 rfl w6.heap.size 65 j0 (.agg #[.int .u8 0, .slice none 0 0]) 2 Ybaf.underlying35 hj hy0 hy1 _ _ _ (np + n5) rfl rfl rfl ?b2 ?b3 (Nat.le_refl _) ?_)
        case b2 => rw [hy2]; omega
        case b3 => unfold maxLen; omega
        intro w7 hown0 hgrow0
        go_wp2_with fail
        go_loopw [7, 8, 51] (fun sn sm si wr => ∃ (k need q : Nat) (acc : List (Int × List Int)) (l : List (Int × Value)), k ≤ np ∧ need ≤ 100000 ∧ sn = .int .i64 need ∧ sm = .slice (some ⟨w6.heap.size, 0, none⟩) q (np + n5) ∧ si = .int .i64 k ∧ q ≤ k ∧ Hid (acc.length = q) ∧ Hid (Own w6.heap.size wr (.slice (some ⟨w6.heap.size, 0, none⟩) q (np + n5)) acc l) ∧ Hid (acc ++ keep need (path.drop k) = keep nd path) ∧ Below w6.heap.size w6 wr) (fun _ _ si _ => np - (intOf si).toNat)
        case atStart => exact ⟨0, nd, 0, [], [], Nat.zero_le _, hndb, rfl, rfl, rfl, Nat.le_refl _, rfl, ⟨hown0, rfl, fun i hi => absurd hi (by simp), fun i hi => absurd hi (by simp), fun i hi => absurd hi (by simp)⟩, rfl, (Below.refl _ _).grown hgrow0 (Nat.le_refl _) (fun k h => by cases h)⟩
        case round =>
          obtain ⟨k, need, q, acc, l, hk, hnb, rfl, rfl, rfl, hqk, HQ, O, HK, B⟩ := hrel
          by_cases hlt : k < np
          · obtain ⟨gp, rfl, d0, a', n', c', d1, N, hsep⟩ := HOP6.out.cellsAt k (by rw [HNP.out]; exact hlt)
            replace d0 := cell_later d0 B
            replace d1 := cell_later d1 B
            replace N := N.later B
            obtain ⟨t, ht⟩ : ∃ t, (path.getD k (0, [])).1 = t := ⟨_, rfl⟩
            obtain ⟨xs, hxs⟩ : ∃ xs, (path.getD k (0, [])).2 = xs := ⟨_, rfl⟩
            have hpk : path.getD k (0, []) = (t, xs) := by rw [← ht, ← hxs]
            rw [ht] at d0
            rw [hxs] at N
            have hn' : xs.length = n' ∧ n' ≤ c' ∧ (a' = none → c' = 0) := by
              obtain ⟨_, _, hv, h1, h2, _⟩ := N
              injection hv with e1 e2 e3
              subst e1 e2 e3
              exact ⟨rfl, h1, h2⟩
            have hHK := HK.out
            rw [drop_getD path k (by rw [HNP.out]; exact hlt), hpk] at hHK
            have HK' : Hid (acc ++ keep need ((t, xs) :: path.drop (k + 1)) = keep nd path) := hHK
            have HN : Hid (NumsAt .u32 wr (.slice a' n' c') xs) := N
            have HSEP : Hid (∀ b, (Value.slice a' n' c').ownBlock = some b → b < w6.heap.size) := hsep
            have HXS : Hid (xs.length = n') := hn'.1
            have hcc : n' ≤ c' := hn'.2.1
            have HNC : Hid (a' = none → c' = 0) := hn'.2.2
            have hconf : conf (t, xs) = (t == 3 || t == 4) := rfl
            obtain ⟨y, hy⟩ : ∃ y, (t == 3 || t == 4) = y := ⟨_, rfl⟩
            rw [hy] at hconf
            have HCF : Hid (conf (t, xs) = y) := hconf
            clear HK hHK hpk N hsep hn' ht hxs hconf
            go_wp2_with fail
            refine (confed_any t a' n' c' _).mono ?_
            rintro e w8 ⟨rfl, B3⟩
            rw [hy]
            have B8 : Below wr.heap.size wr w8 := (below_alloc wr _).trans (B3.mono (by simp))
            have f0 := cell_later (World.cell?_alloc_at (w := wr) #[.int .u8 t, .slice a' n' c'] 65 wr.heap.size 0 rfl) B3
            have f1 := cell_later (World.cell?_alloc_at (w := wr) #[.int .u8 t, .slice a' n' c'] 65 wr.heap.size 1 rfl) B3
            have OW : Hid (w8.ownsRow w6.heap.size 65 2 (.slice (some ⟨w6.heap.size, 0, none⟩) q (np + n5)) q (flat l)) := by
              have := ownsRow_later O.out.own B8
              rw [HQ.out] at this
              exact this
            have rm : q + 1 ≤ np + n5 := by omega
            have fz : w8.frozen? ⟨wr.heap.size, 1, none⟩ = false := (B3.frozen (p := ⟨wr.heap.size, 1, none⟩) (by simp)).trans (World.frozen?_alloc_at _ _ _ _ rfl)
            have hMr : w6.heap.size < wr.heap.size := (O.out.own.lt _ rfl).2
            clear d0 d1 B3 hy
            cases y with
            | true =>
              go_wp2_with (at_builtin; refine wpList_append_fits _ rfl (.tmp 79) (.tmp 81) 35 rfl w6.heap.size 65 j0 2 Ybaf.underlying35 hj hy1 w6.heap.size q (np + n5) (flat l) rfl (OW.out.alloc _) ⟨w8.heap.size, 0, none⟩ 1 1 [.int .u8 t, .slice a' n' c'] rfl rfl (cells_fresh _ _ _) (by intro u hu; simp at hu; rcases hu with rfl | rfl <;> rfl) rm ?_; intro w9 hown hgrow)
              have KS := keep_step O.out HQ.out B (Nat.le_refl _) B8 HN.out HSEP.out hown hgrow
              have HKS : Hid _ := KS
              clear KS hown hgrow
              go_wp2_with fail
              exact ⟨⟨k + 1, need, q + 1, _, _, by omega, hnb, rfl, rfl, by go_num, by omega, (show (acc ++ [(t, xs)]).length = q + 1 by simp [HQ.out]), HKS.out.1, by have := HK'.out; rw [keep_conf HCF.out] at this; show _ = _; rw [List.append_assoc]; exact this, HKS.out.2⟩, by simp [intOf]; omega⟩
            | false =>
              by_cases hn0 : need = 0
              · subst hn0
                have HE : Hid (acc = keep nd path) := by have := HK'.out; rw [keep_zero HCF.out, List.append_nil] at this; exact this
                have B9 : Below w6.heap.size w6 w8 := B.trans (B8.mono B.size)
                have O8 : Hid (Own w6.heap.size w8 (.slice (some ⟨w6.heap.size, 0, none⟩) q (np + n5)) acc l) := O.out.later B8
                have OR5 := HO6.out.later B9
                have OWN : Hid (w8.ownsRow w6.heap.size 65 2 (.slice (some ⟨w6.heap.size, 0, none⟩) q (np + n5)) q (flat l)) := OW.out
                have HLF : Hid ((flat l5).length = n5 * 2) := by show _ = _; rw [flat_length, OR5.len, HN5.out]
                have HN50 : Hid (a5 = none → n5 = 0 ∧ c5 = 0) := fun h => by have := hn5 h; omega
                have HNW : Hid (∀ ad, a5 = some ad → ∀ j u, (flat l5)[j]? = some u → w8.cell? (ad.add j) = some u) := OR5.news
                have HONE : Hid (∀ u ∈ flat l5, u.oneCell' = true) := OR5.oneCell
                have rmf : q + n5 ≤ np + n5 := by omega
                have HR5 : Hid (Own w2.heap.size w8 (.slice a5 n5 c5) s4 l5) := OR5
                clear hn5 OR5
                go_wp2_with (at_builtin; refine wpList_append_fits_any _ rfl (.tmp 84) (.tmp 85) 35 rfl w6.heap.size 65 j0 2 Ybaf.underlying35 hj hy1 w6.heap.size q (np + n5) (flat l) rfl OWN.out a5 n5 c5 (flat l5) rfl HLF.out HN50.out HNW.out HONE.out rmf ?_; intro w9 hown hgrow)
                go_ret
                have BB : Below w6.heap.size w6 w9 := B9.grown hgrow B9.size (fun k h => by cases h; exact Nat.le_refl _)
                refine ⟨_, rfl, ?_, B06.trans (BB.mono B06.size)⟩
                rw [HM.out, ← HE.out]
                exact (O8.out.append HR5.out (fun i hi b hb e => Nat.ne_of_lt (HO6.out.sep i hi b hb).2 (Eq.symm (by simpa [Value.ownBlock] using e))) HQ.out HN5.out hown hgrow (.inl rfl)).segs
              · obtain ⟨nm, rfl⟩ : ∃ nm, need = nm + 1 := ⟨need - 1, by omega⟩
                have q0 : (((nm + 1 : Nat) : Int) == 0) = false := by simp; omega
                by_cases ht1 : t = 1
                · subst ht1
                  go_wp2_with (at_builtin; refine wpList_append_fits _ rfl (.tmp 79) (.tmp 81) 35 rfl w6.heap.size 65 j0 2 Ybaf.underlying35 hj hy1 w6.heap.size q (np + n5) (flat l) rfl (OW.out.alloc _) ⟨w8.heap.size, 0, none⟩ 1 1 [.int .u8 1, .slice a' n' c'] rfl rfl (cells_fresh _ _ _) (by intro u hu; simp at hu; rcases hu with rfl | rfl <;> rfl) rm ?_; intro w9 hown hgrow)
                  have KS := keep_step O.out HQ.out B (Nat.le_refl _) B8 HN.out HSEP.out hown hgrow
                  have HKS : Hid _ := KS
                  clear KS hown hgrow
                  go_wp2_with fail
                  exact ⟨⟨k + 1, nm, q + 1, _, _, by omega, by omega, by go_num, rfl, by go_num, by omega, (show Hid ((acc ++ [((1 : Int), xs)]).length = q + 1) from by show _ = _; simp [HQ.out]), HKS.out.1, by have := HK'.out; rw [keep_one HCF.out (by omega) rfl] at this; show _ = _; rw [List.append_assoc]; exact this, HKS.out.2⟩, by simp [intOf]; omega⟩
                · have q1 : (t == 1) = false := by simp [ht1]
                  clear hn0
                  by_cases hle : (nm : Int) + 1 ≤ (n' : Int)
                  · have hle2 : ¬ (n' : Int) < (nm : Int) + 1 := by omega
                    have B82 : Below wr.heap.size wr (w8.setCell ⟨wr.heap.size, 1, none⟩ (.slice a' (nm + 1) (nm + 1))) := B8.grown (grown_set _ _ _) B8.size (fun k h => by cases h; exact Nat.le_refl _)
                    have OW2 : Hid ((w8.setCell ⟨wr.heap.size, 1, none⟩ (.slice a' (nm + 1) (nm + 1))).ownsRow w6.heap.size 65 2 (.slice (some ⟨w6.heap.size, 0, none⟩) q (np + n5)) q (flat l)) := OW.out.kept (grown_set _ _ _) (.inr (fun e => Nat.ne_of_lt hMr (by simpa [Value.ownBlock] using e)))
                    have HFR : Hid (∀ j u, [Value.int .u8 t, .slice a' (nm + 1) (nm + 1)][j]? = some u → ((w8.setCell ⟨wr.heap.size, 1, none⟩ (.slice a' (nm + 1) (nm + 1))).alloc (.cells #[.int .u8 t, .slice a' (nm + 1) (nm + 1)] 65)).cell? ((⟨w8.heap.size, 0, none⟩ : Addr).add j) = some u) := by
                      have := cells_fresh (w8.setCell ⟨wr.heap.size, 1, none⟩ (.slice a' (nm + 1) (nm + 1))) #[.int .u8 t, .slice a' (nm + 1) (nm + 1)] 65
                      rw [World.size_setCell] at this
                      exact this
                    have NT : Hid (NumsAt .u32 wr (.slice a' (nm + 1) (nm + 1)) (xs.take (nm + 1))) := HN.out.take (by omega) (Nat.le_refl _) (fun h => by have := HNC.out h; omega)
                    go_wp2_with (at_builtin; refine wpList_append_fits _ rfl (.tmp 79) (.tmp 81) 35 rfl w6.heap.size 65 j0 2 Ybaf.underlying35 hj hy1 w6.heap.size q (np + n5) (flat l) rfl (OW2.out.alloc _) ⟨w8.heap.size, 0, none⟩ 1 1 [.int .u8 t, .slice a' (nm + 1) (nm + 1)] rfl rfl HFR.out (by intro u hu; simp at hu; rcases hu with rfl | rfl <;> rfl) rm ?_; intro w9 hown hgrow)
                    have KS := keep_step O.out HQ.out B (Nat.le_refl _) B82 NT.out (fun b hb => HSEP.out b (ownBlock_same hb)) hown hgrow
                    have HE : Hid (acc ++ [(t, xs.take (nm + 1))] ++ keep 0 (path.drop (k + 1)) = keep nd path) := by
                      have := HK'.out
                      rw [keep_seq HCF.out (by omega) ht1, Nat.min_eq_left (show nm + 1 ≤ xs.length by rw [HXS.out]; omega)] at this
                      show _ = _
                      rw [List.append_assoc]
                      rw [Nat.sub_self] at this; exact this
                    exact ⟨⟨k + 1, 0, q + 1, _, _, by omega, by omega, by go_num, rfl, by go_num, by omega, (show Hid ((acc ++ [(t, xs.take (nm + 1))]).length = q + 1) from by show _ = _; simp [HQ.out]), KS.1, HE, KS.2⟩, by simp [intOf]; omega⟩
                  · have hle2 : (n' : Int) < (nm : Int) + 1 := by omega
                    have B82 : Below wr.heap.size wr (w8.setCell ⟨wr.heap.size, 1, none⟩ (.slice a' n' n')) := B8.grown (grown_set _ _ _) B8.size (fun k h => by cases h; exact Nat.le_refl _)
                    have OW2 : Hid ((w8.setCell ⟨wr.heap.size, 1, none⟩ (.slice a' n' n')).ownsRow w6.heap.size 65 2 (.slice (some ⟨w6.heap.size, 0, none⟩) q (np + n5)) q (flat l)) := OW.out.kept (grown_set _ _ _) (.inr (fun e => Nat.ne_of_lt hMr (by simpa [Value.ownBlock] using e)))
                    have HFR : Hid (∀ j u, [Value.int .u8 t, .slice a' n' n'][j]? = some u → ((w8.setCell ⟨wr.heap.size, 1, none⟩ (.slice a' n' n')).alloc (.cells #[.int .u8 t, .slice a' n' n'] 65)).cell? ((⟨w8.heap.size, 0, none⟩ : Addr).add j) = some u) := by
                      have := cells_fresh (w8.setCell ⟨wr.heap.size, 1, none⟩ (.slice a' n' n')) #[.int .u8 t, .slice a' n' n'] 65
                      rw [World.size_setCell] at this
                      exact this
                    have NT : Hid (NumsAt .u32 wr (.slice a' n' n') (xs.take n')) := HN.out.take (by omega) (Nat.le_refl _) (fun h => by have := HNC.out h; omega)
                    go_wp2_with (at_builtin; refine wpList_append_fits _ rfl (.tmp 79) (.tmp 81) 35 rfl w6.heap.size 65 j0 2 Ybaf.underlying35 hj hy1 w6.heap.size q (np + n5) (flat l) rfl (OW2.out.alloc _) ⟨w8.heap.size, 0, none⟩ 1 1 [.int .u8 t, .slice a' n' n'] rfl rfl HFR.out (by intro u hu; simp at hu; rcases hu with rfl | rfl <;> rfl) rm ?_; intro w9 hown hgrow)
                    have KS := keep_step O.out HQ.out B (Nat.le_refl _) B82 NT.out (fun b hb => HSEP.out b (ownBlock_same hb)) hown hgrow
                    have HE : Hid (acc ++ [(t, xs.take n')] ++ keep (nm + 1 - n') (path.drop (k + 1)) = keep nd path) := by
                      have := HK'.out
                      rw [keep_seq HCF.out (by omega) ht1, Nat.min_eq_right (show xs.length ≤ nm + 1 by rw [HXS.out]; omega), HXS.out] at this
                      show _ = _
                      rw [List.append_assoc]
                      exact this
                    exact ⟨⟨k + 1, (nm + 1 - n'), q + 1, _, _, by omega, by omega, by go_num, rfl, by go_num, by omega, (show Hid ((acc ++ [(t, xs.take n')]).length = q + 1) from by show _ = _; simp [HQ.out]), KS.1, HE, KS.2⟩, by simp [intOf]; omega⟩
          · obtain rfl : k = np := by omega
            have HE : Hid (acc = keep nd path) := by have := HK.out; rw [List.drop_of_length_le (by rw [HNP.out]; exact Nat.le_refl _)] at this; rw [show keep need [] = [] by cases need <;> rfl, List.append_nil] at this; exact this
            have OR5 := HO6.out.later B
            have OWN : Hid (wr.ownsRow w6.heap.size 65 2 (.slice (some ⟨w6.heap.size, 0, none⟩) q (k + n5)) q (flat l)) := by have := O.out.own; rw [HQ.out] at this; exact this
            have HLF : Hid ((flat l5).length = n5 * 2) := by show _ = _; rw [flat_length, OR5.len, HN5.out]
            have HN50 : Hid (a5 = none → n5 = 0 ∧ c5 = 0) := fun h => by have := hn5 h; omega
            have HNW : Hid (∀ ad, a5 = some ad → ∀ j u, (flat l5)[j]? = some u → wr.cell? (ad.add j) = some u) := OR5.news
            have HONE : Hid (∀ u ∈ flat l5, u.oneCell' = true) := OR5.oneCell
            have rmf : q + n5 ≤ k + n5 := by omega
            have HR5 : Hid (Own w2.heap.size wr (.slice a5 n5 c5) s4 l5) := OR5
            clear hn5 OR5
            go_wp2_with (at_builtin; refine wpList_append_fits_any _ rfl (.tmp 84) (.tmp 85) 35 rfl w6.heap.size 65 j0 2 Ybaf.underlying35 hj hy1 w6.heap.size q (k + n5) (flat l) rfl OWN.out a5 n5 c5 (flat l5) rfl HLF.out HN50.out HNW.out HONE.out rmf ?_; intro w9 hown hgrow)
            go_ret
            have BB : Below w6.heap.size w6 w9 := B.grown hgrow B.size (fun k h => by cases h; exact Nat.le_refl _)
            refine ⟨_, rfl, ?_, B06.trans (BB.mono B06.size)⟩
            rw [HM.out, ← HE.out]
            exact (O.out.append HR5.out (fun i hi b hb e => Nat.ne_of_lt (HO6.out.sep i hi b hb).2 (Eq.symm (by simpa [Value.ownBlock] using e))) HQ.out HN5.out hown hgrow (.inl rfl)).segs
    · clear HP
      go_wp2_with fail
      go_ret
      exact ⟨_, rfl, HOP.out.segs.later (B2.trans (B3.mono B2.size)), B2.trans (B3.mono B2.size)⟩
set_option maxRecDepth 100000 in
set_option maxHeartbeats 400000 in
theorem merge_nil (Pb : Nat) (vp : Value) (path : List (Int × List Int)) (pb : Nat) (lp : List (Int × Value)) (w : World) (p1 : w.cell? ⟨Pb, 1, none⟩ = some (.slice none 0 0)) (OP : Own pb w vp path lp) :
    Calls Ybaf.prog 17 #[.pointer (some ⟨Pb, 0, none⟩), vp] w fun e w' => MergeOut w path e w' := by
  have q22 : ∀ (w : World) (a : Option Addr) (n c n' c' : Nat), (binOp .eql 22 (.slice a n c) (.slice none n' c')).run Ybaf.prog w = .ok (.bool a.isNone) w := fun w a n c n' c' => Lib.run_eql_slice_nil w _ _ a n c n' c' Ybaf.underlying22
  have HOP : Hid (Own pb w vp path lp) := OP
  clear OP
  go_enter Ybaf.func17, Ybaf.ntmps17
  go_wp2_with fail
  go_ret
  exact ⟨_, rfl, HOP.out.segs, Below.refl _ _⟩
end Go.Proofs.YbulknbsFmt
