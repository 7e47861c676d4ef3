/-
  What the law lays: the bytes of AS4_PATH and the path that it stands for.
-/
import Derived.Test.YbulknbsFmtMerge
import Derived.Test.YbulknbsFmtClone
namespace Go.Proofs.YbulknbsFmt
open Go.RowKit

/-- a segment of AS4_PATH as the law lays it -/
def cut (s : Int × List Int) : Int × List Int := (s.1 % 4 + 1, s.2.take 255)

theorem take_cut (ss : List (Int × List Int)) (k : Nat) (hk : k < ss.length) : (ss.take (k + 1)).map cut = (ss.take k).map cut ++ [cut (ss.getD k (0, []))] := by
  have e : ss.getD k (0, []) = ss[k] := by simp [hk]
  rw [e, List.take_add_one, List.map_append, List.getElem?_eq_getElem hk]
  rfl
theorem enc_append (a b : List (Int × List Int)) : enc (a ++ b) = enc a ++ enc b := by
  induction a with
  | nil => rfl
  | cons s r ih => simp [enc, ih]
theorem bytes4_append (a b : List Int) : bytes4 (a ++ b) = bytes4 a ++ bytes4 b := by
  induction a with
  | nil => rfl
  | cons s r ih => simp [bytes4, ih]
theorem bytes4_take (xs : List Int) (i : Nat) (hi : i < xs.length) : bytes4 (xs.take (i + 1)) = bytes4 (xs.take i) ++ be4 (xs.getD i 0) := by
  rw [List.take_add_one, bytes4_append, List.getElem?_eq_getElem hi]
  simp [bytes4, hi]
theorem nums_take (ss : List (Int × List Int)) (k : Nat) (hk : k < ss.length) : (nums (ss.take (k + 1))).length = (nums (ss.take k)).length + (ss.getD k (0, [])).2.length := by
  rw [List.take_add_one, nums_append, List.getElem?_eq_getElem hk]
  simp [nums, hk]
theorem nums_bound (ss : List (Int × List Int)) (L : Nat) (h : ∀ i, (ss.getD i (0, [])).2.length ≤ L) (k : Nat) (hk : k ≤ ss.length) : (nums (ss.take k)).length ≤ k * L := by
  induction k with
  | zero => simp [nums]
  | succ k ih =>
    have := ih (by omega)
    have h1 := h k
    rw [nums_take ss k (by omega), Nat.succ_mul]
    omega
theorem enc_len (ss : List (Int × List Int)) : (enc ss).length = ss.length * 2 + (nums ss).length * 4 := by
  induction ss with
  | nil => rfl
  | cons s r ih => simp [enc, nums, bytes4_length, ih]; omega
theorem nums_cut (ss : List (Int × List Int)) : (nums (ss.map cut)).length ≤ (nums ss).length := by
  induction ss with
  | nil => simp [nums]
  | cons s r ih => simp [nums, cut] at ih ⊢; omega
theorem nums_take_le (ss : List (Int × List Int)) (k : Nat) : (nums (ss.take k)).length ≤ (nums ss).length := by
  conv => rhs; rw [← List.take_append_drop k ss]
  rw [nums_append]; simp

/-- across a change of other blocks -/
theorem Own.kept {base : Nat} {w w' : World} {v : Value} {ss : List (Int × List Int)} {l : List (Int × Value)} {row : Option Nat} (h : Own base w v ss l) (hg : w.grownBy w' row) (h1 : ∀ g, v.ownBlock = some g → row ≠ some g) (h2 : ∀ i, i < ss.length → ∀ b, (l.getD i (0, undef)).2.ownBlock = some b → row ≠ some b) : Own base w' v ss l := by
  refine ⟨h.own.kept hg ?_, h.len, h.ty, fun i hi => (h.num i hi).grown hg (h2 i hi), fun i hi b hb => ⟨(h.sep i hi b hb).1, Nat.lt_of_lt_of_le (h.sep i hi b hb).2 hg.size⟩⟩
  cases hv : v.ownBlock with
  | none => exact .inl rfl
  | some g => exact .inr (fun e => h1 g hv e.symm)

/-- the bytes and the path, each in rows of the call's own -/
structure Bs (base : Nat) (w wr : World) (vb va : Value) (bytes : List Int) (F : List (Int × List Int)) (l : List (Int × Value)) : Prop where
  B : Below base w wr
  bs : wr.ownsRow base 5 1 vb bytes.length (bytes.map (Value.int .u8))
  as4 : Own base wr va F l
  far : ∀ g, va.ownBlock = some g → vb.ownBlock ≠ some g
  farN : ∀ i, i < F.length → ∀ b, (l.getD i (0, undef)).2.ownBlock = some b → vb.ownBlock ≠ some b
  nil : F.length = 0 → va = .slice none 0 0

theorem Bs.later {base : Nat} {w wr w' : World} {vb va : Value} {bytes : List Int} {F : List (Int × List Int)} {l : List (Int × Value)} (S : Bs base w wr vb va bytes F l) (h : base ≤ wr.heap.size) (B : Below wr.heap.size wr w') : Bs base w w' vb va bytes F l :=
  ⟨S.B.trans (B.mono h), ownsRow_later S.bs B, S.as4.later B, S.far, S.farN, S.nil⟩

theorem Bs.grow {base : Nat} {w wr w3 : World} {vb va : Value} {bytes bytes' : List Int} {F : List (Int × List Int)} {l : List (Int × Value)} {g n cap : Nat} (S : Bs base w wr vb va bytes F l) (hb : base ≤ wr.heap.size)
    (ho : w3.ownsRow base 5 1 (.slice (some ⟨g, 0, none⟩) n cap) n (bytes'.map (Value.int .u8))) (hg : wr.grownBy w3 vb.ownBlock) (hat : vb.ownBlock = some g ∨ wr.heap.size ≤ g) :
    Bs base w w3 (.slice (some ⟨g, 0, none⟩) n cap) va bytes' F l := by
  have hn : bytes'.length = n := by have := ho.1; simpa using this
  have key : ∀ x, vb.ownBlock ≠ some x → x < wr.heap.size → (Value.slice (some ⟨g, 0, none⟩) n cap).ownBlock ≠ some x := fun x h1 h2 e => by
    have e' : g = x := by simpa [Value.ownBlock] using e
    rcases hat with h | h
    · exact h1 (by rw [h, e'])
    · omega
  refine ⟨S.B.grown hg hb (fun k hk => (S.bs.lt k hk).1), by rw [hn]; exact ho, S.as4.kept hg S.far S.farN, fun x hx => key x (S.far x hx) (S.as4.own.lt x hx).2, fun i hi x hx => key x (S.farN i hi x hx) (S.as4.sep i hi x hx).2, S.nil⟩

theorem Bs.pushA {base : Nat} {w wr wr' w3 : World} {vb va : Value} {bytes : List Int} {F : List (Int × List Int)} {l : List (Int × Value)} {g k cap : Nat} {a : Option Addr} {n c : Nat} {t : Int} {xs : List Int} (S : Bs base w wr vb va bytes F l) (hb : base ≤ wr.heap.size) (B' : Below wr.heap.size wr wr')
    (N : NumsAt .u32 wr' (.slice a n c) xs) (hn : ∀ b, (Value.slice a n c).ownBlock = some b → wr.heap.size ≤ b ∧ b < wr'.heap.size) (hk : F.length = k)
    (ho : w3.ownsRow base 65 2 (.slice (some ⟨g, 0, none⟩) (k + 1) cap) (k + 1) (flat l ++ [.int .u8 t, .slice a n c])) (hg : wr'.grownBy w3 va.ownBlock) (hat : va.ownBlock = some g ∨ g = wr'.heap.size) :
    Bs base w w3 vb (.slice (some ⟨g, 0, none⟩) (k + 1) cap) bytes (F ++ [(t, xs)]) (l ++ [(t, .slice a n c)]) := by
  have hs := B'.size
  have P := (S.as4.later B').push N (fun b hb => ⟨fun e => by have h1 := (hn b hb).1; have h2 := (S.as4.own.lt b e).2; omega, (hn b hb).2⟩) hk ho hg hat
  have hl : l.length = F.length := S.as4.len
  refine ⟨(S.B.trans (B'.mono hb)).grown hg (by omega) (fun k hk => (S.as4.own.lt k hk).1), (ownsRow_later S.bs B').kept hg ?_, P, fun x hx e => ?_, fun i hi x hx e => ?_, fun h => by simp at h⟩
  · cases hv : vb.ownBlock with
    | none => exact .inl rfl
    | some x => exact .inr (fun e => S.far x e.symm hv)
  · have e' : g = x := by simpa [Value.ownBlock] using hx
    rcases hat with h | h
    · exact S.far g h (by rw [e, e'])
    · have := (S.bs.lt x e).2
      omega
  · by_cases hi2 : i < F.length
    · have : (l ++ [(t, Value.slice a n c)]).getD i (0, undef) = l.getD i (0, undef) := by
        have : i < l.length := by omega
        simp [List.getElem?_append_left this]
      rw [this] at hx
      exact S.farN i hi2 x hx e
    · have hi3 : i = F.length := by simp at hi; omega
      have : (l ++ [(t, Value.slice a n c)]).getD i (0, undef) = (t, .slice a n c) := by rw [hi3, ← hl]; simp
      rw [this] at hx
      have h1 := (hn x hx).1
      have h2 := (S.bs.lt x e).2
      omega

/-- the merge, whatever is asked -/
theorem merge_any (has4 bad : Bool) (Pb : Nat) (ad : Addr) (nb cb : Nat) (v2 v3 vp : Value) (ag ag4 : List Int) (ss path : List (Int × List Int)) (pb : Nat) (lp : List (Int × Value)) (w : World)
    (p1 : w.cell? ⟨Pb, 1, none⟩ = some (if has4 then .slice (some ad) nb cb else .slice none 0 0)) (p2 : w.cell? ⟨Pb, 2, none⟩ = some v2) (p3 : w.cell? ⟨Pb, 3, none⟩ = some v3) (h1 : NumsAt .u8 w (.slice (some ad) nb cb) (enc ss ++ if bad then [0] else [])) (h2 : NumsAt .u8 w v2 ag) (h3 : NumsAt .u8 w v3 ag4) (hag : ∀ i, 0 ≤ ag.getD i 0 ∧ ag.getD i 0 ≤ 255)
    (hl : (enc ss).length + 1 ≤ 100000) (hty : ∀ s ∈ ss, 1 ≤ s.1 ∧ s.1 ≤ 4) (hcn : ∀ s ∈ ss, s.2.length ≤ 255) (hsl : ss.length ≤ 10000) (hnm : ∀ s ∈ ss, ∀ x ∈ s.2, 0 ≤ x ∧ x ≤ 4294967295)
    (OP : Own pb w vp path lp) (hpl : path.length ≤ 10000) (hpp : plen path ≤ 100000) (hp4 : plen (ss.filter ncs) ≤ 100000) :
    Calls Ybaf.prog 17 #[.pointer (some ⟨Pb, 0, none⟩), vp] w fun e w' => MergeOut w (if (!has4 || reagg ag ag4 || bad) then path else merged path (ss.filter ncs)) e w' := by
  cases has4 with
  | false => exact merge_nil Pb vp path pb lp w p1 OP
  | true =>
    have M := merge_some Pb ad nb cb v2 v3 vp ag ag4 (if bad then [0] else []) ss path pb lp w p1 p2 p3 h1 h2 h3 hag (by cases bad <;> simp) (by cases bad <;> simp at hl ⊢ <;> omega) hty hcn hsl hnm OP hpl hpp hp4
    refine M.mono fun e w' h => ?_
    have e1 : (reagg ag ag4 || (if bad then [(0 : Int)] else []) == [0]) = (!true || reagg ag ag4 || bad) := by cases bad <;> simp
    rw [← e1]
    exact h
end Go.Proofs.YbulknbsFmt
