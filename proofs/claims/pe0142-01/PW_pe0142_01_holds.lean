import PyProof.Rows.All
import Wide.All
import OpenK.AllK
import Wide.FinOn
import Lean
import PySem.Challenge.RW_pe0142_01
set_option Elab.async false
set_option rowWalk.seconds 0
section
local macro_rules | `(tactic| walk_at $s:str) => `(tactic| k_extra $s)
section
local macro_rules | `(tactic| omega) => `(tactic| first | with_reducible assumption | (law_clear; lia -abstractProof) | omega (config := {}))
section
open PySem PySem.W PyProof.Rows
namespace Mine
set_option maxRecDepth 100000 in
set_option maxHeartbeats 8000000 in
open_top hd for PySem.Challenge.rw_pe0142_01
end Mine
end

section
open PySem
namespace Mine

/-- a text out of its signs' numbers -/
noncomputable def S (l : List Nat) : Str := ⟨l.toArray⟩
theorem S_cps (x : Str) : S x.cps.toList = x := by cases x; simp [S]
@[simp] theorem S_length (l : List Nat) : (S l).length = l.length := by simp [S, Str.length]
theorem S_inj {a b : List Nat} : S a = S b ↔ a = b := by
  constructor
  · intro h; have := congrArg (fun x : Str => x.cps.toList) h; simpa [S] using this
  · intro h; rw [h]
theorem S_beq (a b : List Nat) : (S a == S b) = decide (a = b) := by
  by_cases h : a = b
  · subst h; simp
  · have : S a ≠ S b := fun e => h (S_inj.mp e)
    rw [decide_eq_false h]; exact beq_eq_false_iff_ne.mpr this

/-- how long the common beginning is -/
noncomputable def lcp : List Nat → List Nat → Nat
  | x :: a, y :: b => if x = y then lcp a b + 1 else 0
  | _, _ => 0
theorem lcp_le_left : ∀ a b, lcp a b ≤ a.length
  | [], b => by simp [lcp]
  | x :: a, [] => by simp [lcp]
  | x :: a, y :: b => by
    simp only [lcp, List.length_cons]
    split
    · have := lcp_le_left a b; omega
    · omega
theorem lcp_comm : ∀ a b, lcp a b = lcp b a
  | [], [] => rfl
  | [], y :: b => rfl
  | x :: a, [] => rfl
  | x :: a, y :: b => by
    simp only [lcp]
    by_cases h : x = y
    · subst h; simp [lcp_comm a b]
    · have h' : ¬ y = x := fun e => h e.symm
      simp [h, h']
theorem lcp_le_right (a b : List Nat) : lcp a b ≤ b.length := by rw [lcp_comm]; exact lcp_le_left b a
theorem lcp_step : ∀ (a b : List Nat) (k : Nat), k ≤ lcp a b → k < a.length → k < b.length → (a.getD k 0 = b.getD k 0 ↔ k + 1 ≤ lcp a b)
  | [], b, k => by intro _ h; simp at h
  | x :: a, [], k => by intro _ _ h; simp at h
  | x :: a, y :: b, 0 => by
    intro _ _ _
    simp only [lcp, List.getD_cons_zero]
    by_cases h : x = y <;> simp [h]
  | x :: a, y :: b, k + 1 => by
    intro h1 h2 h3
    simp only [lcp] at h1 ⊢
    by_cases h : x = y
    · simp only [h, if_true] at h1 ⊢
      simp only [List.getD_cons_succ]
      have := lcp_step a b k (by omega) (by simpa using h2) (by simpa using h3)
      omega
    · simp [h] at h1
theorem lcp_take : ∀ a b : List Nat, a.take (lcp a b) = b.take (lcp a b)
  | [], b => by simp [lcp]
  | x :: a, [] => by simp [lcp]
  | x :: a, y :: b => by
    simp only [lcp]
    by_cases h : x = y
    · subst h; simp [lcp_take a b]
    · simp [h]

/-- slices of texts -/
theorem slice_from (l : List Nat) (k : Int) (h0 : 0 ≤ k) (h1 : k ≤ l.length) : Txt.slice (S l) (some k) none = S (l.drop k.toNat) := by
  have := StrLaws.sliceText_from (x := S l) (i := k) ⟨h0, by simpa [S] using h1⟩
  rw [show Txt.slice (S l) (some k) none = StrLaws.sliceText (S l) (some k) none from rfl, this]
  unfold S
  congr 2

  rw [List.take_of_length_le]
  simp; omega
theorem slice_to (l : List Nat) (k : Int) (h0 : 0 ≤ k) (h1 : k ≤ l.length) : Txt.slice (S l) none (some k) = S (l.take k.toNat) := by
  have := StrLaws.sliceText_to (x := S l) (j := k) ⟨h0, by simpa [S] using h1⟩
  rw [show Txt.slice (S l) none (some k) = StrLaws.sliceText (S l) none (some k) from rfl, this]
  simp [S]
theorem slice_all (l : List Nat) : Txt.slice (S l) none none = S l := by
  have e : Txt.slice (S l) none none = StrLaws.sliceText (S l) (some 0) (some ((S l).length : Int)) := by
    show StrLaws.sliceText (S l) none none = _
    unfold StrLaws.sliceText
    rw [StrLaws.sliceIdx_none_lo, StrLaws.sliceIdx_none_hi]
  rw [e]
  have := StrLaws.sliceText_nat (S l) (a := 0) (b := (S l).length) (by omega) (by omega)
  rw [show ((0 : Nat) : Int) = 0 from rfl] at this
  rw [this]
  have hl : (S l).length = l.length := S_length l
  rw [hl]
  simp [S]
theorem slice_idx_neg (u : Int) (n : Nat) (h : u < 0) (h1 : -(n : Int) ≤ u) : Builtin.Str.strSliceIndices none (some u) 1 n = Builtin.Str.strSliceIndices none (some (u + n)) 1 n := by
  have h2 : ¬ (u + (n : Int) < 0) := by omega
  simp only [Builtin.Str.strSliceIndices, h, h2, if_true, if_false]
theorem slice_neg (l : List Nat) (k : Nat) (h0 : 0 < k) (h1 : k ≤ l.length) : Txt.slice (S l) none (some (-(k : Int))) = S (l.take (l.length - k)) := by
  have e : Txt.slice (S l) none (some (-(k : Int))) = Txt.slice (S l) none (some (-(k : Int) + (l.length : Int))) := by
    unfold Txt.slice
    rw [S_length, slice_idx_neg _ _ (by omega) (by omega)]
  rw [e, slice_to _ _ (by omega) (by omega)]
  congr 2
  omega

/-- signs of texts -/
theorem item_nonneg (l : List Nat) (k : Int) (h0 : 0 ≤ k) (h1 : k < l.length) : Txt.item (S l) k = S [l.getD k.toNat 0] := by
  unfold Txt.item Txt.charAt
  rw [S_length, StrLaws.seqIndex_nonneg h0 h1]
  simp [S]
theorem item_neg (l : List Nat) (k : Nat) (h0 : 0 < k) (h1 : k ≤ l.length) : Txt.item (S l) (-(k : Int)) = S [l.reverse.getD (k - 1) 0] := by
  unfold Txt.item Txt.charAt
  rw [S_length, StrLaws.seqIndex_neg (by omega) (by omega)]
  have e : (-(k : Int) + (l.length : Int)).toNat = l.length - k := by omega
  have h2 : l.length - k < l.length := by omega
  rw [e]
  simp only [S, Option.bind_some]
  congr 2
  rw [List.getElem?_toArray, List.getD_eq_getElem?_getD, List.getElem?_reverse (by omega)]
  congr 2
  congr 1
  omega
end Mine
namespace Mine
open PySem
theorem beq_item (a b : Nat) : (S [a] == S [b]) = true ↔ a = b := by rw [S_beq]; simp
section
variable {x y : List Nat} {k : Int}
theorem pre_len {x : List Nat} {k : Int} (h0 : 0 ≤ k) (h : x.drop k.toNat ≠ []) : k < x.length := by have h := List.length_pos_iff.mpr h; rw [List.length_drop] at h; omega
theorem pre_stop1 (h0 : 0 ≤ k) (hk : k ≤ lcp x y) (h : x.drop k.toNat = []) : k = lcp x y := by
  have := lcp_le_left x y; have h := congrArg List.length h; rw [List.length_drop, List.length_nil] at h; omega
theorem pre_stop2 (h0 : 0 ≤ k) (hk : k ≤ lcp x y) (h : y.drop k.toNat = []) : k = lcp x y := by
  have := lcp_le_right x y; have h := congrArg List.length h; rw [List.length_drop, List.length_nil] at h; omega
theorem pre_iff (h0 : 0 ≤ k) (hk : k ≤ lcp x y) (h1 : k < x.length) (h2 : k < y.length) : (S [x.getD k.toNat 0] == S [y.getD k.toNat 0]) = true ↔ k + 1 ≤ lcp x y := by
  rw [beq_item, lcp_step x y k.toNat (by omega) (by omega) (by omega)]
  omega
theorem pre_go (h0 : 0 ≤ k) (hk : k ≤ lcp x y) (h1 : x.drop k.toNat ≠ []) (h2 : y.drop k.toNat ≠ [])
    (he : (S [x.getD k.toNat 0] == S [y.getD k.toNat 0]) = true) : k + 1 ≤ lcp x y :=
  (pre_iff h0 hk (pre_len h0 h1) (pre_len h0 h2)).mp he
theorem pre_stop3 (h0 : 0 ≤ k) (hk : k ≤ lcp x y) (h1 : x.drop k.toNat ≠ []) (h2 : y.drop k.toNat ≠ [])
    (he : (S [x.getD k.toNat 0] == S [y.getD k.toNat 0]) = false) : k = lcp x y := by
  have h := pre_iff h0 hk (pre_len h0 h1) (pre_len h0 h2)
  rw [he] at h
  have : ¬ (k + 1 ≤ lcp x y) := fun q => absurd (h.mpr q) (by decide)
  omega
end
/-- how long the common end is -/
noncomputable def lcs (a b : List Nat) : Nat := lcp a.reverse b.reverse
theorem lcs_le_left (a b : List Nat) : lcs a b ≤ a.length := by have := lcp_le_left a.reverse b.reverse; simpa [lcs] using this
theorem lcs_le_right (a b : List Nat) : lcs a b ≤ b.length := by have := lcp_le_right a.reverse b.reverse; simpa [lcs] using this
/-- the text to the end's -k-th sign, k nought or less: Python's x[:k or None] -/
noncomputable def cutEnd (x : List Nat) (k : Int) : List Nat := x.take (x.length - (-k).toNat)
theorem cutEnd_zero (x : List Nat) : Txt.slice (S x) none none = S (cutEnd x 0) := by rw [slice_all]; simp [cutEnd]
theorem cutEnd_neg {x : List Nat} {k : Int} (h0 : k < 0) (h1 : -k ≤ x.length) : Txt.slice (S x) none (some k) = S (cutEnd x k) := by
  obtain ⟨n, hn⟩ : ∃ n : Nat, k = -(n : Int) := ⟨(-k).toNat, by omega⟩
  subst hn
  rw [slice_neg x n (by omega) (by omega)]
  simp [cutEnd]
theorem cutEnd_length (x : List Nat) (k : Int) : (cutEnd x k).length = x.length - (-k).toNat := by simp [cutEnd]
section
variable {x y : List Nat} {k : Int}
theorem post_len {x : List Nat} {k : Int} (h1 : -k ≤ x.length) (h : cutEnd x k ≠ []) : -k < x.length := by have h := List.length_pos_iff.mpr h; rw [cutEnd_length] at h; omega
theorem post_stop1 (h0 : k ≤ 0) (hk : -k ≤ lcs x y) (h : cutEnd x k = []) : k = -(lcs x y : Int) := by
  have := lcs_le_left x y; have h := congrArg List.length h; rw [cutEnd_length, List.length_nil] at h; omega
theorem post_stop2 (h0 : k ≤ 0) (hk : -k ≤ lcs x y) (h : cutEnd y k = []) : k = -(lcs x y : Int) := by
  have := lcs_le_right x y; have h := congrArg List.length h; rw [cutEnd_length, List.length_nil] at h; omega
theorem post_iff (h0 : k ≤ 0) (hk : -k ≤ lcs x y) (h1 : -k < x.length) (h2 : -k < y.length) : (S [x.reverse.getD ((-(k - 1)).toNat - 1) 0] == S [y.reverse.getD ((-(k - 1)).toNat - 1) 0]) = true ↔ -k + 1 ≤ lcs x y := by
  obtain ⟨n, hn⟩ : ∃ n : Nat, k = -(n : Int) := ⟨(-k).toNat, by omega⟩
  have e : (-(k - 1)).toNat - 1 = n := by omega
  rw [e, beq_item]
  have := lcp_step x.reverse y.reverse n (by unfold lcs at hk; omega) (by rw [List.length_reverse]; omega) (by rw [List.length_reverse]; omega)
  rw [this]
  unfold lcs
  omega
theorem post_go (h0 : k ≤ 0) (hk : -k ≤ lcs x y) (h1 : cutEnd x k ≠ []) (h2 : cutEnd y k ≠ [])
    (he : (S [x.reverse.getD ((-(k - 1)).toNat - 1) 0] == S [y.reverse.getD ((-(k - 1)).toNat - 1) 0]) = true) : -(k - 1) ≤ lcs x y := by
  have := lcs_le_left x y; have := lcs_le_right x y
  have := (post_iff h0 hk (post_len (by omega) h1) (post_len (by omega) h2)).mp he
  omega
theorem post_stop3 (h0 : k ≤ 0) (hk : -k ≤ lcs x y) (h1 : cutEnd x k ≠ []) (h2 : cutEnd y k ≠ [])
    (he : (S [x.reverse.getD ((-(k - 1)).toNat - 1) 0] == S [y.reverse.getD ((-(k - 1)).toNat - 1) 0]) = false) : k = -(lcs x y : Int) := by
  have := lcs_le_left x y; have := lcs_le_right x y
  have h := (post_iff h0 hk (post_len (by omega) h1) (post_len (by omega) h2))
  rw [he] at h
  have : ¬ (-k + 1 ≤ lcs x y) := fun q => absurd (h.mpr q) (by decide)
  omega
theorem cutEnd_0 (x : List Nat) : cutEnd x 0 = x := by simp [cutEnd]
end
end Mine

namespace Mine
open PySem
/-- the cost of putting one sign for another -/
noncomputable def subC (a b : Str) : Int := if a = b then 0 else if Txt.lower a = Txt.lower b then 1 else 2
noncomputable def cost (c x : Nat) : Int := subC (S [c]) (S [x])
/-- the inner loop: the new row, the last result, the least -/
noncomputable def innerRow (c : Nat) : List Nat → List Int → Int → Int → List Int
  | x :: a, o :: row, d, r => min (min r o + 2) (d + cost c x) :: innerRow c a row o (min (min r o + 2) (d + cost c x))
  | _, _, _, _ => []
noncomputable def innerRes (c : Nat) : List Nat → List Int → Int → Int → Int
  | x :: a, o :: row, d, r => innerRes c a row o (min (min r o + 2) (d + cost c x))
  | _, _, _, r => r
noncomputable def innerMin (c : Nat) : List Nat → List Int → Int → Int → Int → Int
  | x :: a, o :: row, d, r, mn => innerMin c a row o (min (min r o + 2) (d + cost c x)) (if min (min r o + 2) (d + cost c x) < mn then min (min r o + 2) (d + cost c x) else mn)
  | _, _, _, _, mn => mn
noncomputable def bigN : Int := 9223372036854775807
/-- the outer loop -/
noncomputable def dpGo (a : List Nat) (mc : Int) : List Nat → List Int → Nat → Int → Int
  | [], _, _, res => res
  | c :: bs, row, j, _ =>
    if innerMin c a row (2 * j) (2 * j) bigN > mc then mc + 1
    else dpGo a mc bs (innerRow c a row (2 * j) (2 * j)) (j + 1) (innerRes c a row (2 * j) (2 * j))
/-- the row at the start: 2, 4, .. -/
noncomputable def rowInit (n : Nat) : List Int := (List.range n).map fun (i : Nat) => 2 * (i : Int) + 2
noncomputable def sw (a b : List Nat) : List Nat × List Nat := if b.length < a.length then (b, a) else (a, b)
/-- behind the cuts -/
noncomputable def levCore (a b : List Nat) (mc : Int) : Int :=
  if a = [] ∨ b = [] then 2 * ((a.length : Int) + b.length)
  else if (((sw a b).2.length : Int) - (sw a b).1.length) * 2 > mc then mc + 1
  else dpGo (sw a b).1 mc (sw a b).2 (rowInit (sw a b).1.length) 0 0
noncomputable def levF (a b : List Nat) (mc : Int) : Int :=
  if a = b then 0
  else levCore (cutEnd (a.drop (lcp a b)) (-(lcs (a.drop (lcp a b)) (b.drop (lcp a b)) : Int))) (cutEnd (b.drop (lcp a b)) (-(lcs (a.drop (lcp a b)) (b.drop (lcp a b)) : Int))) mc
theorem sw_le (a b : List Nat) : (sw a b).1.length ≤ (sw a b).2.length := by unfold sw; split <;> simp <;> omega
theorem sw_len (a b : List Nat) (n : Nat) (ha : a.length ≤ n) (hb : b.length ≤ n) : (sw a b).1.length ≤ n ∧ (sw a b).2.length ≤ n := by unfold sw; split <;> simp <;> omega
theorem sw_pos (a b : List Nat) (ha : 0 < a.length) (hb : 0 < b.length) : 0 < (sw a b).1.length ∧ 0 < (sw a b).2.length := by unfold sw; split <;> simp <;> omega
theorem levCore_nil {a b : List Nat} {mc : Int} (h : a = [] ∨ b = []) : levCore a b mc = 2 * ((a.length : Int) + b.length) := by unfold levCore; rw [if_pos h]
theorem levCore_far {a b : List Nat} {mc : Int} (ha : a ≠ []) (hb : b ≠ []) (h : (((sw a b).2.length : Int) - (sw a b).1.length) * 2 > mc) : levCore a b mc = mc + 1 := by
  unfold levCore; rw [if_neg (by simp [ha, hb]), if_pos h]
theorem levCore_dp {a b : List Nat} {mc : Int} (ha : a ≠ []) (hb : b ≠ []) (h : ¬ (((sw a b).2.length : Int) - (sw a b).1.length) * 2 > mc) : levCore a b mc = dpGo (sw a b).1 mc (sw a b).2 (rowInit (sw a b).1.length) 0 0 := by
  unfold levCore; rw [if_neg (by simp [ha, hb]), if_neg h]
theorem range2_size (n : Nat) : Builtin.Range.rangeSize 2 (2 * ((n : Int) + 1)) 2 = (n : Int) := by
  unfold Builtin.Range.rangeSize
  rw [if_pos (by decide)]
  split <;> omega
theorem fitsLong {x : Int} (h1 : -1000000 ≤ x) (h2 : x ≤ 1000000) : Builtin.Range.rangeFitsLong x = true := by
  simp only [Builtin.Range.rangeFitsLong, Bool.and_eq_true, decide_eq_true_eq]
  omega
theorem range2_small {n : Nat} (h : n ≤ 1000) : Builtin.Range.small 2 (2 * ((n : Int) + 1)) 2 = true := by
  unfold Builtin.Range.small
  rw [range2_size, fitsLong (by omega) (by omega), fitsLong (by omega) (by omega), fitsLong (by omega) (by omega), if_pos (by decide), fitsLong (by omega) (by omega)]
  simp
theorem range1_size (n : Nat) : Builtin.Range.rangeSize 0 (n : Int) 1 = (n : Int) := by
  unfold Builtin.Range.rangeSize
  rw [if_pos (by decide)]
  split <;> omega
theorem range1_small {n : Nat} (h : n ≤ 1000) : Builtin.Range.small 0 (n : Int) 1 = true := by
  unfold Builtin.Range.small
  rw [range1_size, fitsLong (by omega) (by omega), fitsLong (by omega) (by omega), fitsLong (by omega) (by omega), if_pos (by decide), fitsLong (by omega) (by omega)]
  simp
theorem rowInit_eq (n : Nat) : (List.range n).map (fun (i : Nat) => (2 : Int) + (i : Int) * 2) = rowInit n := by
  unfold rowInit
  refine List.map_congr_left fun i _ => ?_
  omega
theorem rowInit_length (n : Nat) : (rowInit n).length = n := by simp [rowInit]
open PyProof.Rows in
theorem intsAre_set : ∀ {vs : List Value} {ns : List Int} (i : Nat) (r : Int) (t : Tok), IntsAre vs ns → IntsAre (vs.set i (.int r t)) (ns.set i r)
  | _, _, _, _, _, .nil => .nil
  | _, _, 0, r, t, .cons _ _ h => .cons r t h
  | _, _, i + 1, r, t, .cons n u h => .cons n u (intsAre_set i r t h)
open PyProof.Rows in
theorem intsAre_get : ∀ {vs : List Value} {ns : List Int} (i : Nat), IntsAre vs ns → i < ns.length → ∃ t, vs[i]? = some (.int (ns.getD i 0) t)
  | _, _, _, .nil, h => absurd h (Nat.not_lt_zero _)
  | _, _, 0, .cons n t _, _ => ⟨t, rfl⟩
  | _, _, i + 1, .cons n t h, hi => by
    obtain ⟨u, hu⟩ := intsAre_get i h (by simpa using hi)
    exact ⟨u, by simpa using hu⟩
theorem drop_cons_getD {α : Type} (d : α) : ∀ (l : List α) (i : Nat), i < l.length → l.drop i = l.getD i d :: l.drop (i + 1)
  | [], _, h => absurd h (Nat.not_lt_zero _)
  | _ :: _, 0, _ => rfl
  | _ :: l, i + 1, h => by simpa using drop_cons_getD d l i (by simpa using h)
theorem take_set (l : List Int) (i : Nat) (r : Int) (h : i < l.length) : (l.set i r).take (i + 1) = l.take i ++ [r] := by
  rw [List.take_add_one, List.take_set_of_le (Nat.le_refl i)]
  simp [h]
section
variable {ch : Nat} {p : List Nat} {ns : List Int} {d r mn : Int} {i : Nat}
theorem inner_step (hi : i < p.length) (hn : ns.length = p.length) :
    innerRow ch (p.drop i) (ns.drop i) d r = min (min r (ns.getD i 0) + 2) (d + cost ch (p.getD i 0)) :: innerRow ch (p.drop (i + 1)) (ns.drop (i + 1)) (ns.getD i 0) (min (min r (ns.getD i 0) + 2) (d + cost ch (p.getD i 0))) ∧
    innerRes ch (p.drop i) (ns.drop i) d r = innerRes ch (p.drop (i + 1)) (ns.drop (i + 1)) (ns.getD i 0) (min (min r (ns.getD i 0) + 2) (d + cost ch (p.getD i 0))) ∧
    innerMin ch (p.drop i) (ns.drop i) d r mn = innerMin ch (p.drop (i + 1)) (ns.drop (i + 1)) (ns.getD i 0) (min (min r (ns.getD i 0) + 2) (d + cost ch (p.getD i 0))) (if min (min r (ns.getD i 0) + 2) (d + cost ch (p.getD i 0)) < mn then min (min r (ns.getD i 0) + 2) (d + cost ch (p.getD i 0)) else mn) := by
  rw [drop_cons_getD 0 p i hi, drop_cons_getD 0 ns i (by omega)]
  exact ⟨rfl, rfl, rfl⟩
/-- what the inner loop keeps -/
noncomputable def InnerInv (ch : Nat) (p : List Nat) (R : List Int) (Rr Rm : Int) (i : Nat) (ns : List Int) (d r mn : Int) : Prop :=
  ns.length = p.length ∧ ns.take i ++ innerRow ch (p.drop i) (ns.drop i) d r = R ∧ innerRes ch (p.drop i) (ns.drop i) d r = Rr ∧ innerMin ch (p.drop i) (ns.drop i) d r mn = Rm
theorem InnerInv.start (ch : Nat) (p : List Nat) (ns : List Int) (d r mn : Int) (h : ns.length = p.length) : InnerInv ch p (innerRow ch p ns d r) (innerRes ch p ns d r) (innerMin ch p ns d r mn) 0 ns d r mn := ⟨h, by simp, by simp, by simp⟩
theorem InnerInv.next {R : List Int} {Rr Rm r' mn' : Int} (h : InnerInv ch p R Rr Rm i ns d r mn) (hi : i < p.length) (hr : r' = min (min r (ns.getD i 0) + 2) (d + cost ch (p.getD i 0))) (hm : mn' = if r' < mn then r' else mn) :
    InnerInv ch p R Rr Rm (i + 1) (ns.set i r') (ns.getD i 0) r' mn' := by
  obtain ⟨h1, h2, h3, h4⟩ := h
  obtain ⟨e1, e2, e3⟩ := inner_step (ch := ch) (d := d) (r := r) (mn := mn) hi h1
  rw [← hr] at e1 e2 e3
  rw [← hm] at e3
  have ed : (ns.set i r').drop (i + 1) = ns.drop (i + 1) := by rw [List.drop_set_of_lt (by omega)]
  refine ⟨by rw [List.length_set]; exact h1, ?_, ?_, ?_⟩
  · rw [take_set ns i r' (by omega), ed, List.append_assoc, List.singleton_append, ← e1]; exact h2
  · rw [ed, ← e2]; exact h3
  · rw [ed, ← e3]; exact h4
theorem InnerInv.last {R : List Int} {Rr Rm : Int} (h : InnerInv ch p R Rr Rm p.length ns d r mn) : ns = R ∧ r = Rr ∧ mn = Rm := by
  obtain ⟨h1, h2, h3, h4⟩ := h
  rw [List.drop_length] at h2 h3 h4
  rw [← h1, List.take_length] at h2
  exact ⟨by simpa [innerRow] using h2, by simpa [innerRes] using h3, by simpa [innerMin] using h4⟩
theorem innerRow_length (ch : Nat) : ∀ (p : List Nat) (ns : List Int) (d r : Int), ns.length = p.length → (innerRow ch p ns d r).length = p.length
  | [], [], _, _, _ => rfl
  | [], _ :: _, _, _, h => by simp at h
  | _ :: _, [], _, _, h => by simp at h
  | x :: p, o :: ns, d, r, h => by
    simp only [innerRow, List.length_cons]
    rw [innerRow_length ch p ns _ _ (by simpa using h)]
theorem dpGo_cons {mc res : Int} {q : List Nat} {j : Nat} (hj : j < q.length) :
    dpGo p mc (q.drop j) ns j res = if innerMin (q.getD j 0) p ns (2 * j) (2 * j) bigN > mc then mc + 1
      else dpGo p mc (q.drop (j + 1)) (innerRow (q.getD j 0) p ns (2 * j) (2 * j)) (j + 1) (innerRes (q.getD j 0) p ns (2 * j) (2 * j)) := by
  rw [drop_cons_getD 0 q j hj]; rfl
end
end Mine
end

section
open PySem PySem.W PyProof.Rows PySem.Spec PySem.Calls
namespace Mine

/-- a mark: the walk halts here -/
noncomputable def Stopped (P : Prop) : Prop := P
theorem stopped_of {P : Prop} (h : Stopped P) : P := h
theorem Stopped.mk {P : Prop} (h : P) : Stopped P := h

theorem ite_tt {a b : Prop} {d : Decidable (true = true)} (h : a) : @ite Prop (true = true) d a b := by rw [if_pos rfl]; exact h
theorem ite_ft {a b : Prop} {d : Decidable (false = true)} (h : b) : @ite Prop (false = true) d a b := by rw [if_neg Bool.false_ne_true]; exact h

/-- one name of a frame set -/
noncomputable def upd (m : Str → Option Value) (x : Str) (v : Value) : Str → Option Value := fun y => if y = x then some v else m y
theorem upd_upd (m : Str → Option Value) (x : Str) (v u : Value) : upd (upd m x u) x v = upd m x v := by
  funext y; unfold upd; by_cases h : y = x <;> simp [h]

theorem lookup_upd (x : Str) (v : Value) (r : List (Str × Value)) : (fun y => List.lookup y ((x, v) :: r)) = upd (fun y => List.lookup y r) x v := by
  funext y; unfold upd; rw [List.lookup_cons]; by_cases h : y = x
  · subst h; simp
  · have : (y == x) = false := beq_eq_false_iff_ne.mpr h
    simp [h, this]
theorem lookup_nil : (fun y => List.lookup y ([] : List (Str × Value))) = fun _ => none := rfl
theorem fr_eq {h₀ h : Heap} {L : Addr} {m m' : Str → Option Value} (F : Fr h₀ L h m) (e : m = m') : Fr h₀ L h m' := e ▸ F
theorem upd_ne {m : Str → Option Value} {x y : Str} {v : Value} (h : y ≠ x) : upd m x v y = m y := by unfold upd; rw [if_neg h]
theorem upd_self {m : Str → Option Value} {x : Str} {v : Value} : upd m x v x = some v := by unfold upd; rw [if_pos rfl]
theorem upd_comm (m : Str → Option Value) {x y : Str} (v u : Value) (h : x ≠ y) : upd (upd m x v) y u = upd (upd m y u) x v := by
  funext z; unfold upd; by_cases h1 : z = x <;> by_cases h2 : z = y <;> simp_all

section
variable {prog : Program} {w : World} {A : Around} {E : Value → Shared → Prop} {Q : Flow → Shared → Prop} {s : Shared} {env : Env} {h₀ : Heap} {L : Addr}

/-- the state behind: only the frame's map told, the ledger as it was -/
noncomputable def Ends (h₀ : Heap) (L : Addr) (s : Shared) (m : Str → Option Value) (news : List (Addr × Obj)) (s' : Shared) : Prop :=
  ∃ h' tk', s' = { s with heap := h', toks := tk' } ∧ Fr h₀ L h' m ∧ News h₀ L h' news
theorem Ends.mk {m : Str → Option Value} {news : List (Addr × Obj)} {h' : Heap} {tk' : Nat} (F : Fr h₀ L h' m) (N : News h₀ L h' news) : Ends h₀ L s m news { s with heap := h', toks := tk' } := ⟨h', tk', rfl, F, N⟩

/-- a turn's end: the int is turned, the measure falls -/
noncomputable def Turns (h₀ : Heap) (L : Addr) (s : Shared) (m₀ : Str → Option Value) (news : List (Addr × Obj)) (x : Str) (I : Int → Prop) (μ : Int → Nat) (k : Int) (f : Flow) (s₃ : Shared) : Prop :=
  f = .next ∧ ∃ k' t', I k' ∧ μ k' < μ k ∧ Ends h₀ L s (upd m₀ x (.int k' t')) news s₃
/-- the loop is left: the int is K -/
noncomputable def Exits (h₀ : Heap) (L : Addr) (s : Shared) (m₀ : Str → Option Value) (news : List (Addr × Obj)) (x : Str) (K k : Int) (s₂ : Shared) : Prop :=
  k = K ∧ ∃ t', Ends h₀ L s (upd m₀ x (.int k t')) news s₂
theorem Turns.mk {m₀ : Str → Option Value} {news : List (Addr × Obj)} {x : Str} {I : Int → Prop} {μ : Int → Nat} {k k' : Int} {t' : Tok} {h' : Heap} {tk' : Nat} {u : Value}
    (F : Fr h₀ L h' (fun y => if y = x then some (.int k' t') else upd m₀ x u y)) (N : News h₀ L h' news) (hI : I k') (hμ : μ k' < μ k) : Turns h₀ L s m₀ news x I μ k .next { s with heap := h', toks := tk' } := by
  refine ⟨rfl, k', t', hI, hμ, h', tk', rfl, ?_, N⟩
  have e : (fun y => if y = x then some (Value.int k' t') else upd m₀ x u y) = upd m₀ x (.int k' t') := upd_upd m₀ x (.int k' t') u
  rw [← e]; exact F
theorem Exits.mk {m₀ : Str → Option Value} {news : List (Addr × Obj)} {x : Str} {K k : Int} {t' : Tok} {h' : Heap} {tk' : Nat}
    (F : Fr h₀ L h' (upd m₀ x (.int k t'))) (N : News h₀ L h' news) (hk : k = K) : Exits h₀ L s m₀ news x K k { s with heap := h', toks := tk' } := ⟨hk, t', h', tk', rfl, F, N⟩

/-- a while that turns one int of the frame to its last value K -/
theorem While_to {hS : Heap} {gS : Array GenState} {dS : Drawn} {tS : Nat} {oS : OsState} {x : Str} {m₀ : Str → Option Value} {news : List (Addr × Obj)} {test : Expr} {body : List Stmt} {pos : Pos} (K : Int) (I : Int → Prop) (μ : Int → Nat) (k₀ : Int) (t₀ : Tok)
    (F : Fr h₀ L hS (fun y => if y = x then some (.int k₀ t₀) else m₀ y)) (N : News h₀ L hS news) (hI : I k₀)
    (turn : ∀ k t h tk, I k → Fr h₀ L h (upd m₀ x (.int k t)) → News h₀ L h news →
      wpAny (model prog w) A (isTrue test env (eval test env)) (fun b s₂ =>
        if b = true then wpAny (model prog w) A (execs body env) (Turns h₀ L ⟨hS, gS, dS, tS, oS⟩ m₀ news x I μ k) E s₂
        else Exits h₀ L ⟨hS, gS, dS, tS, oS⟩ m₀ news x K k s₂) E ⟨h, gS, dS, tk, oS⟩)
    (done : ∀ t h tk, Fr h₀ L h (upd m₀ x (.int K t)) → News h₀ L h news → Q .next ⟨h, gS, dS, tk, oS⟩)
    (hE : PassesOwn (model prog w) A env E := by passes_own) :
    wpAny (model prog w) A (exec (.While test body [] pos) env) Q E ⟨hS, gS, dS, tS, oS⟩ := by
  refine While_inv2 (n₀ := μ k₀) (fun n m nw => nw = news ∧ ∃ k t, m = upd m₀ x (.int k t) ∧ I k ∧ μ k = n) (m := upd m₀ x (.int k₀ t₀)) F N ⟨rfl, k₀, t₀, rfl, hI, rfl⟩ ?_ hE
  rintro n m₁ nw h₁ tk₁ F₁ N₁ ⟨rfl, k, t, rfl, hk, rfl⟩
  refine wpAny_mono (turn k t h₁ tk₁ hk F₁ N₁) (fun b s₂ hb => ?_) fun _ _ e => e
  cases b with
  | false =>
    simp only [Bool.false_eq_true, if_false] at hb ⊢
    obtain ⟨rfl, t', h', tk', rfl, F', N'⟩ := hb
    exact done t' h' tk' F' N'
  | true =>
    simp only [if_true] at hb ⊢
    refine wpAny_mono hb (fun f s₃ hf => ?_) fun _ _ e => e
    obtain ⟨rfl, k', t', hI', hμ, h', tk', rfl, F', N'⟩ := hf
    exact ⟨h', tk', _, nw, μ k', rfl, F', N', hμ, rfl, k', t', rfl, hI', rfl⟩

/-- a statement that sets one name -/
noncomputable def Sets (h₀ : Heap) (L : Addr) (s : Shared) (m : Str → Option Value) (x : Str) (v : Tok → Value) (news : List (Addr × Obj)) (f : Flow) (s' : Shared) : Prop :=
  f = .next ∧ ∃ t, Ends h₀ L s (upd m x (v t)) news s'
theorem Sets.mk {m : Str → Option Value} {x : Str} {v : Tok → Value} {u : Value} {news : List (Addr × Obj)} {h' : Heap} {tk' : Nat}
    (F : Fr h₀ L h' (fun y => if y = x then some u else m y)) (N : News h₀ L h' news) (e : ∃ t, u = v t) : Sets h₀ L s m x v news .next { s with heap := h', toks := tk' } := by
  obtain ⟨t, rfl⟩ := e
  exact ⟨rfl, t, h', tk', rfl, F, N⟩
theorem cut_set {hS : Heap} {gS : Array GenState} {dS : Drawn} {tS : Nat} {oS : OsState} {m : Str → Option Value} {news : List (Addr × Obj)} {st : Stmt} {rest : List Stmt} (x : Str) (v : Tok → Value) (_F : Fr h₀ L hS m) (_N : News h₀ L hS news)
    (h1 : wpAny (model prog w) A (exec st env) (Sets h₀ L ⟨hS, gS, dS, tS, oS⟩ m x v news) E ⟨hS, gS, dS, tS, oS⟩)
    (h2 : ∀ t h tk, Fr h₀ L h (upd m x (v t)) → News h₀ L h news → wpAny (model prog w) A (execs rest env) Q E ⟨h, gS, dS, tk, oS⟩) :
    wpAny (model prog w) A (execs (st :: rest) env) Q E ⟨hS, gS, dS, tS, oS⟩ := by
  refine wpAny_execs_cons (wpAny_mono h1 (fun f s' hf => ?_) fun _ _ e => e)
  obtain ⟨rfl, t, h', tk', rfl, F, N⟩ := hf
  exact h2 t h' tk' F N

/-- a statement behind which the frame's map is one of a family -/
noncomputable def Lays {τ : Type} (h₀ : Heap) (L : Addr) (s : Shared) (m : τ → Str → Option Value) (news : List (Addr × Obj)) (f : Flow) (s' : Shared) : Prop :=
  f = .next ∧ ∃ t, Ends h₀ L s (m t) news s'
theorem Lays.mk {τ : Type} {m : τ → Str → Option Value} {m' : Str → Option Value} {news : List (Addr × Obj)} {h' : Heap} {tk' : Nat} (t : τ)
    (F : Fr h₀ L h' m') (N : News h₀ L h' news) (e : m' = m t) : Lays h₀ L s m news .next { s with heap := h', toks := tk' } := ⟨rfl, t, h', tk', rfl, e ▸ F, N⟩
theorem cut_lay {hS : Heap} {gS : Array GenState} {dS : Drawn} {tS : Nat} {oS : OsState} {τ : Type} {m₀ : Str → Option Value} {news : List (Addr × Obj)} {st : Stmt} {rest : List Stmt} (m : τ → Str → Option Value) (_F : Fr h₀ L hS m₀) (_N : News h₀ L hS news)
    (h1 : wpAny (model prog w) A (exec st env) (Lays h₀ L ⟨hS, gS, dS, tS, oS⟩ m news) E ⟨hS, gS, dS, tS, oS⟩)
    (h2 : ∀ t h tk, Fr h₀ L h (m t) → News h₀ L h news → wpAny (model prog w) A (execs rest env) Q E ⟨h, gS, dS, tk, oS⟩) :
    wpAny (model prog w) A (execs (st :: rest) env) Q E ⟨hS, gS, dS, tS, oS⟩ := by
  refine wpAny_execs_cons (wpAny_mono h1 (fun f s' hf => ?_) fun _ _ e => e)
  obtain ⟨rfl, t, h', tk', rfl, F, N⟩ := hf
  exact h2 t h' tk' F N

section
variable {value slice : Expr} {a : List Nat} {t : Tok} {m : Str → Option Value} {news : List (Addr × Obj)} {R : Value → Shared → Prop}
theorem sliceS_from {k : Int} {u : Tok} (hF : Fr h₀ L s.heap m) (hN : News h₀ L s.heap news) (hk : 0 ≤ k ∧ k ≤ a.length) (hl : a.length ≤ 1000) (h : ∀ h' t' j, Fr h₀ L h' m → News h₀ L h' news → R (.str (S (a.drop k.toNat)) t') { s with heap := h', toks := j })
    (hs : subscripted slice false (.str (S a) t) (.ref s.heap.objs.size) = operate [.ref s.heap.objs.size, .str (S a) t] (getItem (.str (S a) t) (.ref s.heap.objs.size)) := by with_unfolding_all rfl)
    (ht : ∀ r, letTemporaryGo value (.str (S a) t) r = pure () := by intro _; with_unfolding_all rfl) :
    wpAny (model prog w) A (subscriptTail value slice (.str (S a) t) (.ref s.heap.objs.size)) R E { s with heap := s.heap.push { cls := .type "slice", data := .fields #[.int k u, .none, .none] } } := by
  refine slice_strN_sn hF hN (fun h' t' j F N => ?_) hs ht (by rw [S_length, sizeLine_eq]; omega)
  rw [slice_from a k hk.1 hk.2]; exact h h' t' j F N
theorem sliceS_all (hF : Fr h₀ L s.heap m) (hN : News h₀ L s.heap news) (hl : a.length ≤ 1000) (h : ∀ h' t' j, Fr h₀ L h' m → News h₀ L h' news → R (.str (S a) t') { s with heap := h', toks := j })
    (hs : subscripted slice false (.str (S a) t) (.ref s.heap.objs.size) = operate [.ref s.heap.objs.size, .str (S a) t] (getItem (.str (S a) t) (.ref s.heap.objs.size)) := by with_unfolding_all rfl)
    (ht : ∀ r, letTemporaryGo value (.str (S a) t) r = pure () := by intro _; with_unfolding_all rfl) :
    wpAny (model prog w) A (subscriptTail value slice (.str (S a) t) (.ref s.heap.objs.size)) R E { s with heap := s.heap.push { cls := .type "slice", data := .fields #[.none, .none, .none] } } := by
  refine slice_strN_nn hF hN (fun h' t' j F N => ?_) hs ht (by rw [S_length, sizeLine_eq]; omega)
  rw [slice_all a]; exact h h' t' j F N
theorem sliceS_cut {k : Int} {u : Tok} (hF : Fr h₀ L s.heap m) (hN : News h₀ L s.heap news) (hk : k < 0 ∧ -k ≤ a.length) (hl : a.length ≤ 1000) (h : ∀ h' t' j, Fr h₀ L h' m → News h₀ L h' news → R (.str (S (cutEnd a k)) t') { s with heap := h', toks := j })
    (hs : subscripted slice false (.str (S a) t) (.ref s.heap.objs.size) = operate [.ref s.heap.objs.size, .str (S a) t] (getItem (.str (S a) t) (.ref s.heap.objs.size)) := by with_unfolding_all rfl)
    (ht : ∀ r, letTemporaryGo value (.str (S a) t) r = pure () := by intro _; with_unfolding_all rfl) :
    wpAny (model prog w) A (subscriptTail value slice (.str (S a) t) (.ref s.heap.objs.size)) R E { s with heap := s.heap.push { cls := .type "slice", data := .fields #[.none, .int k u, .none] } } := by
  refine slice_strN_ns hF hN (fun h' t' j F N => ?_) hs ht (by rw [S_length, sizeLine_eq]; omega)
  rw [cutEnd_neg hk.1 hk.2]; exact h h' t' j F N
theorem sliceS_to {k : Int} {u : Tok} (hF : Fr h₀ L s.heap m) (hN : News h₀ L s.heap news) (hk : 0 ≤ k ∧ k ≤ a.length) (hl : a.length ≤ 1000) (h : ∀ h' t' j, Fr h₀ L h' m → News h₀ L h' news → R (.str (S (a.take k.toNat)) t') { s with heap := h', toks := j })
    (hs : subscripted slice false (.str (S a) t) (.ref s.heap.objs.size) = operate [.ref s.heap.objs.size, .str (S a) t] (getItem (.str (S a) t) (.ref s.heap.objs.size)) := by with_unfolding_all rfl)
    (ht : ∀ r, letTemporaryGo value (.str (S a) t) r = pure () := by intro _; with_unfolding_all rfl) :
    wpAny (model prog w) A (subscriptTail value slice (.str (S a) t) (.ref s.heap.objs.size)) R E { s with heap := s.heap.push { cls := .type "slice", data := .fields #[.none, .int k u, .none] } } := by
  refine slice_strN_ns hF hN (fun h' t' j F N => ?_) hs ht (by rw [S_length, sizeLine_eq]; omega)
  rw [slice_to a k hk.1 hk.2]; exact h h' t' j F N
theorem itemS_at {k : Int} {u : Tok} (hk : 0 ≤ k ∧ k < a.length) (hl : a.length ≤ 1000) (h : ∀ t', R (.str (S [a.getD k.toNat 0]) t') { s with toks := s.toks + 1 })
    (hs : subscripted slice false (.str (S a) t) (.int k u) = operate [.str (S a) t, .int k u] (getItem (.str (S a) t) (.int k u)) := by with_unfolding_all rfl)
    (ht : ∀ r, letTemporaryGo value (.str (S a) t) r = pure () := by intro _; with_unfolding_all rfl) :
    wpAny (model prog w) A (subscriptTail value slice (.str (S a) t) (.int k u)) R E s := by
  refine item_str (fitsSsize_of (N := 9223372036854775808) (by omega) (by omega) (Int.le_refl _)) (by rw [S_length]; omega) (by rw [S_length]; omega) (fun _ => ?_) hs ht
  rw [item_nonneg a k hk.1 hk.2]; exact h _
theorem itemS_neg {k : Int} {u : Tok} (hk : k < 0 ∧ -k ≤ a.length) (hl : a.length ≤ 1000) (h : ∀ t', R (.str (S [a.reverse.getD ((-k).toNat - 1) 0]) t') { s with toks := s.toks + 1 })
    (hs : subscripted slice false (.str (S a) t) (.int k u) = operate [.str (S a) t, .int k u] (getItem (.str (S a) t) (.int k u)) := by with_unfolding_all rfl)
    (ht : ∀ r, letTemporaryGo value (.str (S a) t) r = pure () := by intro _; with_unfolding_all rfl) :
    wpAny (model prog w) A (subscriptTail value slice (.str (S a) t) (.int k u)) R E s := by
  refine item_str (fitsSsize_of (N := 9223372036854775808) (by omega) (by omega) (Int.le_refl _)) (by rw [S_length]; omega) (by rw [S_length]; omega) (fun _ => ?_) hs ht
  have e : k = -(((-k).toNat : Nat) : Int) := by omega
  have := item_neg a (-k).toNat (by omega) (by omega)
  rw [← e] at this
  rw [this]; exact h _
theorem truthyS {Q : Bool → Shared → Prop} (hl : a.length ≤ 1000) (h1 : a ≠ [] → 0 < a.length → Q true { s with toks := s.toks + 1 + 1 }) (h2 : a = [] → a.length = 0 → Q false { s with toks := s.toks + 1 + 1 }) :
    wpAny (model prog w) A (truthy (.str (S a) t)) Q E s := by
  refine PySem.P.truthy_str (by rw [S_length]; omega) ?_
  rw [S_length]
  by_cases h : a = []
  · subst h; exact h2 rfl rfl
  · have : ((a.length : Int) != 0) = true := by
      have := List.length_pos_iff.mpr h
      rw [bne_iff_ne]; omega
    rw [this]; exact h1 h (List.length_pos_iff.mpr h)
theorem truthyI_yes {Q : Bool → Shared → Prop} {k : Int} (hk : k ≠ 0) (h : Q true s) : wpAny (model prog w) A (truthy (.int k t)) Q E s :=
  PySem.P.truthy_int ((bne_iff_ne.mpr hk : (k != 0) = true) ▸ h)
theorem truthyI_no {Q : Bool → Shared → Prop} {k : Int} (hk : k = 0) (h : Q false s) : wpAny (model prog w) A (truthy (.int k t)) Q E s :=
  PySem.P.truthy_int (by subst hk; exact h)
theorem lenS (hl : a.length ≤ 1000) (h : ∀ t', R (.int a.length t') { s with toks := s.toks + 1 + 1 }) : wpAny (model prog w) A (call (.builtin "len") [.str (S a) t]) R E s := by
  refine PySem.P.len_str (by rw [S_length]; omega) ?_
  rw [S_length]; exact h _
theorem intsAre_of_get : ∀ (vs : List Value) (f : Nat → Int), (∀ (j : Nat) (v : Value), vs[j]? = some v → ∃ t, v = .int (f j) t) → IntsAre vs ((List.range vs.length).map f)
  | [], _, _ => .nil
  | v :: vs, f, h => by
    obtain ⟨t, rfl⟩ := h 0 v rfl
    rw [List.length_cons, List.range_succ_eq_map, List.map_cons, List.map_map]
    exact .cons _ t (intsAre_of_get vs (f ∘ Nat.succ) fun j v hv => h (j + 1) v hv)
theorem listRangeK {r : Addr} {a₀ b₀ c₀ : Int} {t₀ u₀ v₀ : Tok} {n : Nat} (hh : A.handled = none) (F : Fr h₀ L s.heap m) (N : News h₀ L s.heap news)
    (hr : IsRange s.heap r a₀ b₀ c₀ t₀ u₀ v₀) (hsmall : Builtin.Range.small a₀ b₀ c₀ = true) (hn : Builtin.Range.rangeSize a₀ b₀ c₀ = (n : Int)) (hlen : n ≤ 2 ^ 24)
    (hQ : ∀ D h' tk (ys : List Value) (cc : Nat), Fr h₀ L h' m → News h₀ L h' ((D, listOf ys.toArray cc) :: news) → (∀ p ∈ news, p.1 ≠ D) → IntsAre ys ((List.range n).map fun (i : Nat) => a₀ + (i : Int) * c₀) → R (.ref D) { s with heap := h', toks := tk }) :
    wpAny (model prog w) A (call (.type "list") [.ref r]) R E s := by
  refine call_list_range hh hr hsmall hn hlen fun h' tk acc' c' hk hS' hacc => ?_
  have hfr : ∀ b o, s.heap.get? b = some o → b ≠ s.heap.objs.size := fun b o e q => absurd (Heap.lt_size e) (by rw [q]; exact Nat.lt_irrefl _)
  refine hQ _ h' tk acc'.toList c' (F.keeps hk) (fun p hp => ?_) (fun p hp => hfr _ _ (N p hp).1) ?_
  · rcases List.mem_cons.mp hp with rfl | hp
    · refine ⟨by simpa using hS', ?_, ?_⟩
      · obtain ⟨oL, _, _, hL, _⟩ := F.ns
        exact fun e => hfr _ _ hL e.symm
      · cases e : h₀.get? s.heap.objs.size with
        | none => rfl
        | some o => exact absurd (Heap.lt_size (F.keep _ _ e)) (Nat.lt_irrefl _)
    · exact ⟨hk _ _ (N p hp).1, (N p hp).2⟩
  · have h := intsAre_of_get acc'.toList (fun i => a₀ + (i : Int) * c₀) fun j v hv => hacc.2 j v (by simpa using hv)
    have e : acc'.toList.length = n := by simpa using hacc.1
    rw [e] at h; exact h
end
end
end Mine
end

section
open PySem PySem.W PyProof.Rows PySem.Spec PySem.Calls
namespace Mine
section
variable {w : World} {mean : ExcName → Option Value} {mg mb : Str → Option Value} {news : List (Addr × Obj)}
  {dp un : Nat} {gd : Option (List Code)} {cn : Str} {cs : Scope} {a : Addr} {ccd : Value} {cl : List (Str × Addr)} {outer : List Env} {A₀ : Around} {base h₀ : Heap} {L : Addr} {m : Str → Option Value} {s : Shared} {Q E : Value → Shared → Prop}
set_option maxRecDepth 100000 in
set_option maxHeartbeats 8000000 in
theorem subst_use {hS : Heap} {gS : Array GenState} {dS : Drawn} {tS : Nat} {oS : OsState} {x y : Nat} {tx ty : Tok} (B : Below A₀ base outer h₀) (F : Fr h₀ L hS m) (X : (hd.heap_39 w.params).In h₀) (N : News h₀ L hS news) (T : Top hd.view_39 (looseW hd.view_39 [Str.ofString "_filemode_table"]) mean mg mb h₀) (hk : cs.kind = .function)
    (hdp : dp + 1 < recursionLimit) (hun : un + 8 < cLine) (hret : ∀ (t : Tok) (h' : Heap) (tk' : Nat), Fr h₀ L h' m → News h₀ L h' news → Q (.int (cost x y) t) ⟨h', gS, dS, tk', oS⟩) :
    wpAny (model Challenge.rw_pe0142_01.row.prog w) (ktrTop dp un gd cn cs L a ccd cl outer) (call (.ref 21) [.str (S [x]) tx, .str (S [y]) ty]) Q E ⟨hS, gS, dS, tS, oS⟩ := by
  revert X
  k_fill
  w_top off
  k_with_none
  intro X
  have hx : (S [x]).length ≤ 1 := by rw [S_length]; exact Nat.le_refl _
  have hy : (S [y]).length ≤ 1 := by rw [S_length]; exact Nat.le_refl _
  refine wpAny_call ?_
  k_dflt cell_enter
  k_steps
  · rename_i h _ _ _ _
    exact cb_retI (s := ⟨hS, gS, dS, tS, oS⟩) hret (by unfold cost subC; rw [if_pos (by simpa using h)]) (by k_asm) (by k_asm)
  · have h1 : (S [x] == S [y]) = false := by assumption
    have h2 : (Txt.lower (S [x]) == Txt.lower (S [y])) = true := by assumption
    exact cb_retI (s := ⟨hS, gS, dS, tS, oS⟩) hret (by unfold cost subC; rw [if_neg (by simpa using h1), if_pos (by simpa using h2)]) (by k_asm) (by k_asm)
  · have h1 : (S [x] == S [y]) = false := by assumption
    have h2 : (Txt.lower (S [x]) == Txt.lower (S [y])) = false := by assumption
    exact cb_retI (s := ⟨hS, gS, dS, tS, oS⟩) hret (by unfold cost subC; rw [if_neg (by simpa using h1), if_neg (by simpa using h2)]) (by k_asm) (by k_asm)
end
end Mine
end

section
namespace Mine
theorem all_nil {α : Type} {P : α → Prop} : ∀ b ∈ ([] : List α), P b := fun _ h => nomatch h
theorem all_cons {α : Type} {P : α → Prop} {a : α} {l : List α} (h : P a) (t : ∀ b ∈ l, P b) : ∀ b ∈ a :: l, P b := List.forall_mem_cons.mpr ⟨h, t⟩
theorem all_app {α : Type} {P : α → Prop} {l r : List α} (h : ∀ b ∈ l, P b) (t : ∀ b ∈ r, P b) : ∀ b ∈ l ++ r, P b := fun b hb => (List.mem_append.mp hb).elim (h b) (t b)
theorem use_mem {α : Type} {P : α → Prop} {l : List α} {b : α} (hb : b ∈ l) (h : ∀ b ∈ l, P b) : P b := h b hb
open PySem PySem.W PyProof.Rows PySem.Spec PySem.Calls
section
variable {prog : Program} {w : World} {A : Around} {E : Value → Shared → Prop} {s : Shared}

/-- the next item of a tuple's iterator, asked by another iterator -/
theorem nextOf_tup {it t : Addr} {i : Nat} {items : Array Value} {x : Value} {Q : Value → Shared → Prop} (hit : s.heap.IsTupleIter it t i) (ht : s.heap.IsTuple t items) (hx : items[i]? = some x)
    (hQ : ∀ h', h'.IsTupleIter it t (i + 1) → Heap.SameBut it s.heap h' → Q x { s with heap := h' }) :
    wpAny (model prog w) A (Builtin.SmallTypes.nextOf (.ref it)) Q E s := by
  obtain ⟨o, ho, hc, hd⟩ := id hit
  obtain ⟨ol, hol, _, nl, hdl⟩ := ht
  unfold Builtin.SmallTypes.nextOf
  refine wpAny_bind (wpAny_callSpecial?_slot (name := Str.ofString "__next__") hit.typeIs PySem.F.slot_tuple_iterator_next
    (wpAny_call_entry PySem.F.slot_tuple_iterator_next hit.typeIs PySem.F.entry_tuple_iterator_next ?_ (PySem.F.args_tuple_iterator_next_1 _)))
  show wpAny _ _ (field (.ref it) 0 >>= _) _ _ s
  refine wpAny_bind (wpAny_field ho hd (x := .ref t) rfl ?_)
  show wpAny _ _ (if (Value.ref t == Value.none) = true then _ else _) _ _ s
  rw [if_neg (show ¬ ((Value.ref t == Value.none) = true) from Bool.false_ne_true)]
  show wpAny _ _ (field (.ref it) 1 >>= _) _ _ s
  refine wpAny_bind (wpAny_field ho hd (x := .int i 0) rfl ?_)
  show wpAny _ _ (seqItems? (.ref t) >>= _) _ _ s
  refine wpAny_bind (wpAny_seqItems hol hdl ?_)
  simp only [Int.toNat_natCast, hx]
  refine wpAny_bind (wpAny_setField ho hd (by simp) (wpAny_pure ⟨x, rfl, wpAny_pure (hQ _ ?_ (Heap.SameBut.update ..))⟩))
  exact ⟨_, Heap.get?_update_self _ ho (Obj.isFreed_of_fields (Obj.data_mapFields hd _)), (Obj.cls_mapFields ..).trans hc, by
    rw [Obj.data_mapFields hd]; simp [rawInt]⟩
theorem nextOf_tup_end {it t : Addr} {i : Nat} {items : Array Value} {Q : Value → Shared → Prop} (hh : A.handled = none) (hit : s.heap.IsTupleIter it t i) (ht : s.heap.IsTuple t items) (hx : items[i]? = none)
    (hE : ∀ h' e, Heap.ExtBut it s.heap h' → (∃ o, h'.get? e = some o ∧ o.cls = .type "StopIteration") → E (.ref e) { s with heap := h' }) :
    wpAny (model prog w) A (Builtin.SmallTypes.nextOf (.ref it)) Q E s := by
  obtain ⟨o, ho, hc, hd⟩ := id hit
  obtain ⟨ol, hol, _, nl, hdl⟩ := ht
  unfold Builtin.SmallTypes.nextOf
  refine wpAny_bind (wpAny_callSpecial?_slot (name := Str.ofString "__next__") hit.typeIs PySem.F.slot_tuple_iterator_next
    (wpAny_call_entry PySem.F.slot_tuple_iterator_next hit.typeIs PySem.F.entry_tuple_iterator_next ?_ (PySem.F.args_tuple_iterator_next_1 _)))
  show wpAny _ _ (field (.ref it) 0 >>= _) _ _ s
  refine wpAny_bind (wpAny_field ho hd (x := .ref t) rfl ?_)
  show wpAny _ _ (if (Value.ref t == Value.none) = true then _ else _) _ _ s
  rw [if_neg (show ¬ ((Value.ref t == Value.none) = true) from Bool.false_ne_true)]
  show wpAny _ _ (field (.ref it) 1 >>= _) _ _ s
  refine wpAny_bind (wpAny_field ho hd (x := .int i 0) rfl ?_)
  show wpAny _ _ (seqItems? (.ref t) >>= _) _ _ s
  refine wpAny_bind (wpAny_seqItems hol hdl ?_)
  simp only [Int.toNat_natCast, hx]
  refine wpAny_bind (wpAny_rule (wpAny_bind (wpAny_setField ho hd (by simp) ?_)))
  show wpAny _ _ (newExc (.type "StopIteration") [] >>= _) _ _ _
  refine wpAny_bind ?_
  simp only [newExc, newTuple]
  refine wpAny_bind (wpAny_newObj_type ?_ (by size_fits))
  refine wpAny_bind (m := firstArgMember _ _) (wpAny_of_eq (a := Value.none) (by first | rfl | (simp only [firstArgMember]; rfl)) ?_)
  refine wpAny_newObj_type ?_ (by size_fits)
  simp only [raiseNew]
  refine wpAny_bind (wpAny_handled ?_)
  first | rw [show A.in1.handled = none from hh] | rw [hh]
  refine wpAny_bind (wpAny_pure (wpAny_throw ?_))
  exact hE _ _ (((Heap.SameBut.update ..).extBut.push _).push _) ⟨_, Heap.get?_push_size _ rfl, rfl⟩
theorem tupIter_at {h h' : Heap} {a t : Addr} {i : Nat} (x : h.IsTupleIter a t i) (e : ∀ o, h.get? a = some o → h'.get? a = some o) : h'.IsTupleIter a t i := let ⟨o, ho, r⟩ := x; ⟨o, e o ho, r⟩
theorem tup_at {h h' : Heap} {a : Addr} {items : Array Value} (x : h.IsTuple a items) (e : ∀ o, h.get? a = some o → h'.get? a = some o) : h'.IsTuple a items := let ⟨o, ho, r⟩ := x; ⟨o, e o ho, r⟩
theorem drawsTup (hh : A.handled = none) (it l : Addr) (hne : l ≠ it) (items : Array Value) :
    Draws prog w A it [it, l] items.size (fun i v => items[i]? = some v) (fun i h => h.IsTupleIter it l i ∧ h.IsTuple l items) where
  live := fun _ _ st => let ⟨o, ho, _⟩ := st.1; ⟨o, ho⟩
  frame := fun _ _ _ st hk => ⟨tupIter_at st.1 fun o e => hk it (by simp) o e, tup_at st.2 fun o e => hk l (by simp) o e⟩
  item := fun i s Q E hi st hQ => by
    refine nextOf_tup st.1 st.2 (x := items[i]) (by simp [hi]) fun h' hit' hs' => ?_
    exact hQ _ h' s.toks (by simp [hi]) ⟨hit', st.2.extBut hs'.extBut hne⟩ hs'
  done := fun s Q E st hE => nextOf_tup_end hh st.1 st.2 (by simp) hE
end

theorem meets_enumTup (l : Addr) (items : Array Value) (n : Nat) (dct : Option Addr) (sl : Array (Option Value)) :
    Meets (Builtin.«enumerate.__new__» ⟨[.type "enumerate", .ref l], []⟩) (fun _ R s => s.heap.get? l = some { cls := .type "tuple", dict := dct, data := .seq items n, slots := sl } ∧
      R (.ok (.ret (.ref (s.heap.push { cls := .type "tuple_iterator", data := .fields #[.ref l, .int 0 0] }).objs.size)))
        { s with heap := (s.heap.push { cls := .type "tuple_iterator", data := .fields #[.ref l, .int 0 0] }).push { cls := .type "enumerate", data := .fields #[.none, .bool false, .ref s.heap.objs.size, rawInt 0, .none, .none] } }) :=
  .of_wp fun prog w A R s h => by
    obtain ⟨hp, g, d, tk, os⟩ := s; obtain ⟨hl, h⟩ := h
    have hsub := sub_enumerate
    have hL : Heap.IsTuple (Shared.heap ⟨hp, g, d, tk, os⟩) l items := ⟨_, hl, rfl, n, rfl⟩
    wp_walk using AutoSeq1.wpAny_loadPart' hl
    refine wpAny_stack_any fun st => wpAny_pure ?_
    split
    · rename_i c _ _ _ _ _
      cases (c == Value.type "enumerate")
      · wp_walk using AutoSeq1.wpAny_loadPart' hl, wpAny_pyIter_tuple hL
        exact ⟨_, rfl, h⟩
      · wp_walk using AutoSeq1.wpAny_loadPart' hl, wpAny_pyIter_tuple hL
        exact ⟨_, rfl, h⟩
    · wp_walk using AutoSeq1.wpAny_loadPart' hl, wpAny_pyIter_tuple hL
      exact ⟨_, rfl, h⟩
section
variable {prog : Program} {w : World} {A : Around} {E : Value → Shared → Prop} {s : Shared}
theorem call_enumTup {l : Addr} {items : Array Value} {Q : Value → Shared → Prop} (hL : s.heap.IsTuple l items)
    (h : ∀ h', IsEnum h' (s.heap.objs.size + 1) s.heap.objs.size 0 .none → h'.IsTupleIter s.heap.objs.size l 0 → h'.objs.size = s.heap.objs.size + 2 →
      (∀ b o, s.heap.get? b = some o → h'.get? b = some o) → Q (.ref (s.heap.objs.size + 1)) { s with heap := h' }) :
    wpAny (model prog w) A (call (.type "enumerate") [.ref l]) Q E s := by
  obtain ⟨⟨c, dct, dt, sl⟩, hl, hc, n, hd⟩ := hL
  replace hc : c = .type "tuple" := hc
  replace hd : dt = .seq items n := hd
  subst hc hd
  refine callType_new PySem.F.called_enumerate (by decide) (PySem.F.typeCall_enumerate_1 _) (PySem.F.newCall_enumerate_1 _) (fun obj => PySem.F.args_object_init_2 obj _) PySem.F.entry_enumerate_new
    (meets_enumTup l items n dct sl) ⟨hl, ?_⟩
  have hz : (s.heap.push { cls := .type "tuple_iterator", data := .fields #[.ref l, .int 0 0] }).objs.size = s.heap.objs.size + 1 := Heap.size_push ..
  show _ ∧ _
  rw [hz]
  have he : IsEnum ((s.heap.push { cls := .type "tuple_iterator", data := .fields #[.ref l, .int 0 0] }).push
      { cls := .type "enumerate", data := .fields #[.none, .bool false, .ref s.heap.objs.size, rawInt 0, .none, .none] }) (s.heap.objs.size + 1) s.heap.objs.size 0 .none := by
    have := Heap.get?_push_size (s.heap.push { cls := .type "tuple_iterator", data := .fields #[.ref l, .int 0 0] })
      (o := { cls := .type "enumerate", data := .fields #[.none, .bool false, .ref s.heap.objs.size, rawInt 0, .none, .none] }) rfl
    rw [hz] at this; exact this
  refine ⟨⟨_, he, rfl⟩, h _ he ⟨_, Heap.get?_push_of_some _ (Heap.get?_push_size _ rfl), rfl, rfl⟩ (by rw [Heap.size_push, hz]) fun b o x => Heap.get?_push_of_some _ (Heap.get?_push_of_some _ x)⟩
end

/-- zip of two texts -/
abbrev zS1 (h : Heap) (x : Str) (t : Tok) : Heap := h.push { cls := .type (strIterType x), data := .fields #[.str x t, .int 0 0] }
abbrev zS2 (h : Heap) (x : Str) (t : Tok) (y : Str) (u : Tok) : Heap := (zS1 h x t).push { cls := .type (strIterType y), data := .fields #[.str y u, .int 0 0] }
abbrev zS3 (h : Heap) (x : Str) (t : Tok) (y : Str) (u : Tok) : Heap := (zS2 h x t y u).push { cls := .type "tuple", data := .seq #[.ref h.objs.size, .ref (zS1 h x t).objs.size] }
abbrev zS4 (h : Heap) (x : Str) (t : Tok) (y : Str) (u : Tok) : Heap := (zS3 h x t y u).push { cls := .type "tuple", data := .seq #[.none, .none] }
abbrev zS5 (h : Heap) (x : Str) (t : Tok) (y : Str) (u : Tok) : Heap := (zS4 h x t y u).push { cls := .type "zip", data := .fields #[.none, .bool false, .bool false, .ref (zS2 h x t y u).objs.size, .ref (zS3 h x t y u).objs.size] }
set_option maxHeartbeats 4000000 in
theorem meets_zipS (x : Str) (t : Tok) (y : Str) (u : Tok) :
    Meets (Builtin.«zip.__new__» ⟨[.type "zip", .str x t, .str y u], []⟩) (fun _ R s =>
      R (.ok (.ret (.ref (zS4 s.heap x t y u).objs.size))) { s with heap := zS5 s.heap x t y u }) :=
  .of_wp fun prog w A R s h => by
    obtain ⟨hp, g, d, tk, os⟩ := s
    have hsub := sub_zip
    wp_walk using wpAny_pyIter_strU
    exact ⟨_, rfl, h⟩
section
variable {prog : Program} {w : World} {A : Around} {E : Value → Shared → Prop} {s : Shared}
theorem call_zipS {x : Str} {t : Tok} {y : Str} {u : Tok} {Q : Value → Shared → Prop}
    (h : ∀ h', IsZip h' (s.heap.objs.size + 4) (s.heap.objs.size + 2) (s.heap.objs.size + 3) .none → IsPair h' (s.heap.objs.size + 2) (.ref s.heap.objs.size) (.ref (s.heap.objs.size + 1)) →
      IsPair h' (s.heap.objs.size + 3) .none .none → h'.IsStrIter s.heap.objs.size (strIterType x) x t 0 → h'.IsStrIter (s.heap.objs.size + 1) (strIterType y) y u 0 → h'.objs.size = s.heap.objs.size + 5 →
      (∀ c o, s.heap.get? c = some o → h'.get? c = some o) → Q (.ref (s.heap.objs.size + 4)) { s with heap := h' }) :
    wpAny (model prog w) A (call (.type "zip") [.str x t, .str y u]) Q E s := by
  refine callType_new PySem.F.called_zip (by decide) (PySem.F.typeCall_zip_2 _ _) (PySem.F.newCall_zip_2 _ _) (fun obj => PySem.F.args_object_init_3 obj _ _) PySem.F.entry_zip_new
    (meets_zipS x t y u) ?_
  have z1 : (zS1 s.heap x t).objs.size = s.heap.objs.size + 1 := Heap.size_push ..
  have z2 : (zS2 s.heap x t y u).objs.size = s.heap.objs.size + 2 := by rw [Heap.size_push, z1]
  have z3 : (zS3 s.heap x t y u).objs.size = s.heap.objs.size + 3 := by rw [Heap.size_push, z2]
  have z4 : (zS4 s.heap x t y u).objs.size = s.heap.objs.size + 4 := by rw [Heap.size_push, z3]
  have z5 : (zS5 s.heap x t y u).objs.size = s.heap.objs.size + 5 := by rw [Heap.size_push, z4]
  have g5 : (zS5 s.heap x t y u).get? (zS4 s.heap x t y u).objs.size = some _ := Heap.get?_push_size _ rfl
  have g4 : (zS5 s.heap x t y u).get? (zS3 s.heap x t y u).objs.size = some _ := Heap.get?_push_of_some _ (Heap.get?_push_size _ rfl)
  have g3 : (zS5 s.heap x t y u).get? (zS2 s.heap x t y u).objs.size = some _ := Heap.get?_push_of_some _ (Heap.get?_push_of_some _ (Heap.get?_push_size _ rfl))
  have g2 : (zS5 s.heap x t y u).get? (zS1 s.heap x t).objs.size = some _ := Heap.get?_push_of_some _ (Heap.get?_push_of_some _ (Heap.get?_push_of_some _ (Heap.get?_push_size _ rfl)))
  have g1 : (zS5 s.heap x t y u).get? s.heap.objs.size = some _ := Heap.get?_push_of_some _ (Heap.get?_push_of_some _ (Heap.get?_push_of_some _ (Heap.get?_push_of_some _ (Heap.get?_push_size _ rfl))))
  show _ ∧ _
  rw [z2, z3, z4] at g5
  rw [z1, z2] at g3
  rw [z3] at g4
  rw [z1] at g2
  rw [z4]
  exact ⟨⟨_, g5, rfl⟩, h _ g5 g3 g4 ⟨_, g1, rfl, rfl⟩ ⟨_, g2, rfl, rfl⟩ z5 fun c o e =>
    Heap.get?_push_of_some _ (Heap.get?_push_of_some _ (Heap.get?_push_of_some _ (Heap.get?_push_of_some _ (Heap.get?_push_of_some _ e))))⟩
theorem drawsS (hh : A.handled = none) (it : Addr) (x : Str) (t : Tok) :
    Draws prog w A it [it] x.cps.size (fun i v => ∃ c u, x.cps[i]? = some c ∧ v = .str ⟨#[c]⟩ u) (fun i h => h.IsStrIter it (strIterType x) x t i) := by
  unfold strIterType
  cases x.cps.all (· < 128)
  · exact Draws.strWide hh it x t
  · exact Draws.strAscii hh it x t
end
end Mine
end

section
namespace Mine
open PySem PySem.W PyProof.Rows PySem.Spec PySem.Calls
structure ZA (z TI TO i1 i2 : Addr) : Prop where
  TIz : TI ≠ z
  TOz : TO ≠ z
  i1z : i1 ≠ z
  i2z : i2 ≠ z
  TITO : TI ≠ TO
  TIi1 : TI ≠ i1
  TIi2 : TI ≠ i2
  TOi1 : TO ≠ i1
  TOi2 : TO ≠ i2
  i12 : i1 ≠ i2
section
variable {prog : Program} {w : World} {A : Around} {E : Value → Shared → Prop} {s : Shared}
theorem one_frame {it : Addr} {n : Nat} {P : Nat → Value → Prop} {St : Nat → Heap → Prop} (D : Draws prog w A it [it] n P St) {i : Nat} {h h' : Heap} (st : St i h) (e : ∀ o, h.get? it = some o → h'.get? it = some o) : St i h' :=
  D.frame i h h' st fun b hb o x => by rw [List.mem_singleton.mp hb] at x ⊢; exact e o x

theorem zipD_item {z TI TO i1 i2 : Addr} {n i : Nat} {P1 P2 : Nat → Value → Prop} {S1 S2 : Nat → Heap → Prop} {a b : Value} {Q : Value → Shared → Prop}
    (D1 : Draws prog w A i1 [i1] n P1 S1) (D2 : Draws prog w A i2 [i2] n P2 S2) (D : ZA z TI TO i1 i2) (hi : i < n)
    (hz : IsZip s.heap z TI TO .none) (hTI : IsPair s.heap TI (.ref i1) (.ref i2)) (hTO : IsPair s.heap TO a b) (h1 : S1 i s.heap) (h2 : S2 i s.heap)
    (hQ : ∀ x y h' tk, P1 i x → P2 i y → IsZip h' z TI TO (rawInt s.heap.objs.size) → IsPair h' TO x y → S1 (i + 1) h' → S2 (i + 1) h' → IsPair h' s.heap.objs.size x y → h'.objs.size = s.heap.objs.size + 1 →
      (∀ c o, c ≠ z → c ≠ TO → c ≠ i1 → c ≠ i2 → s.heap.get? c = some o → h'.get? c = some o) → Q (.ref s.heap.objs.size) { s with heap := h', toks := tk }) :
    wpAny (model prog w) A (Builtin.«zip.__next__» ⟨[.ref z], []⟩) (fun fin s' => ∃ v, fin = .done (.ret v) ∧ Q v s') E s := by
  obtain ⟨hp, g, d, tk₀, os⟩ := s
  show wpAny _ _ (field (.ref z) 2 >>= _) _ _ _
  refine wpAny_bind (wpAny_field hz rfl (x := .bool false) rfl ?_)
  show wpAny _ _ (field (.ref z) 3 >>= _) _ _ _
  refine wpAny_bind (wpAny_field hz rfl (x := .ref TI) rfl ?_)
  refine wpAny_bind (wpAny_seqItems hTI rfl ?_)
  show wpAny _ _ (Builtin.SmallTypes.ownedTupleIsFree (.ref z) >>= _) _ _ _
  refine wpAny_bind ?_
  unfold Builtin.SmallTypes.ownedTupleIsFree
  refine wpAny_bind (wpAny_field hz rfl (x := .none) rfl (wpAny_pure ?_))
  simp only [if_true]
  refine wpAny_bind (wpAny_rule ?_)
  refine wpAny_bind (wpAny_field hz rfl (x := .ref TO) rfl ?_)
  refine wpAny_bind (wpAny_setField_rec hz (by simp) fun h₁ hz₁ hs₁ => ?_)
  replace hz₁ : IsZip h₁ z TI TO .ellipsis := hz₁
  replace hs₁ : Heap.SameBut z hp h₁ := hs₁
  refine wpAny_bind ?_
  simp only [List.zipIdx_cons, List.zipIdx_nil, List.forIn_cons, List.forIn_nil]
  refine wpAny_bind (wpAny_bind (wpAny_onRaise ?_))
  show wpAny _ _ (Builtin.SmallTypes.nextOf (.ref i1) >>= _) _ _ _
  refine wpAny_bind (D1.item i _ _ _ hi (one_frame D1 h1 fun o e => hs₁.extBut _ _ D.i1z e) fun x h₂ tk₂ px h1₂ hs₂ => wpAny_pure ?_)
  replace hs₂ : Heap.SameBut i1 h₁ h₂ := hs₂
  have hTO₂ : IsPair h₂ TO a b := hs₂.extBut _ _ D.TOi1 (hs₁.extBut _ _ D.TOz hTO)
  refine wpAny_bind (wpAny_seqItems hTO₂ rfl ?_)
  refine wpAny_bind (wpAny_updateSeq_pair hTO₂ fun h₃ hTO₃ hs₃ => ?_)
  replace hTO₃ : IsPair h₃ TO x b := hTO₃
  replace hs₃ : Heap.SameBut TO h₂ h₃ := hs₃
  refine wpAny_bind (wpAny_letGo (wpAny_pure ?_))
  refine wpAny_bind (wpAny_bind (wpAny_onRaise ?_))
  show wpAny _ _ (Builtin.SmallTypes.nextOf (.ref i2) >>= _) _ _ _
  refine wpAny_bind (D2.item i _ _ _ hi (one_frame D2 h2 fun o e => hs₃.extBut _ _ D.TOi2.symm (hs₂.extBut _ _ D.i12.symm (hs₁.extBut _ _ D.i2z e))) fun y h₄ tk₄ py h2₄ hs₄ => wpAny_pure ?_)
  replace hs₄ : Heap.SameBut i2 h₃ h₄ := hs₄
  have hTO₄ : IsPair h₄ TO x b := hs₄.extBut _ _ D.TOi2 hTO₃
  refine wpAny_bind (wpAny_seqItems hTO₄ rfl ?_)
  refine wpAny_bind (wpAny_updateSeq_pair hTO₄ fun h₅ hTO₅ hs₅ => ?_)
  replace hTO₅ : IsPair h₅ TO x y := hTO₅
  replace hs₅ : Heap.SameBut TO h₄ h₅ := hs₅
  refine wpAny_bind (wpAny_letGo (wpAny_pure (wpAny_pure ?_)))
  refine wpAny_bind (wpAny_seqItems hTO₅ rfl ?_)
  refine wpAny_bind (wpAny_newTuple ?_)
  have hsz : h₅.objs.size = hp.objs.size := by rw [hs₅.1, hs₄.1, hs₃.1, hs₂.1, hs₁.1]
  have hz₅ : IsZip h₅ z TI TO .ellipsis := hs₅.extBut _ _ D.TOz.symm (hs₄.extBut _ _ D.i2z.symm (hs₃.extBut _ _ D.TOz.symm (hs₂.extBut _ _ D.i1z.symm hz₁)))
  have hk₅ : ∀ c o, c ≠ z → c ≠ TO → c ≠ i1 → c ≠ i2 → hp.get? c = some o → h₅.get? c = some o := fun c o c1 c2 c3 c4 e =>
    hs₅.extBut _ _ c2 (hs₄.extBut _ _ c4 (hs₃.extBut _ _ c2 (hs₂.extBut _ _ c3 (hs₁.extBut _ _ c1 e))))
  have h1₅ : S1 (i + 1) h₅ := one_frame D1 h1₂ fun o e => hs₅.extBut _ _ D.TOi1.symm (hs₄.extBut _ _ D.i12 (hs₃.extBut _ _ D.TOi1.symm e))
  have h2₅ : S2 (i + 1) h₅ := one_frame D2 h2₄ fun o e => hs₅.extBut _ _ D.TOi2.symm e
  have hzlt : z < h₅.objs.size := Heap.lt_size hz₅
  show wpAny _ _ (Builtin.SmallTypes.ownedTupleHandOut (.ref z) (.ref h₅.objs.size) >>= _) _ _ _
  refine wpAny_bind ?_
  unfold Builtin.SmallTypes.ownedTupleHandOut
  have hz₆ : IsZip (h₅.push { cls := .type "tuple", data := .seq #[x, y] }) z TI TO .ellipsis := Heap.get?_push_of_some _ hz₅
  refine wpAny_bind (wpAny_setField_rec hz₆ (by simp) fun h₇ hz₇ hs₇ => ?_)
  replace hz₇ : IsZip h₇ z TI TO (rawInt h₅.objs.size) := hz₇
  refine wpAny_setField_rec hz₇ (by simp) fun h₈ hz₈ hs₈ => ?_
  replace hz₈ : IsZip h₈ z TI TO (rawInt h₅.objs.size) := hz₈
  have up : ∀ c o, c ≠ z → h₅.get? c = some o → h₈.get? c = some o := fun c o c1 e => hs₈.extBut _ _ c1 (hs₇.extBut _ _ c1 (Heap.get?_push_of_some _ e))
  have hT₈ : IsPair h₈ h₅.objs.size x y := hs₈.extBut _ _ (Nat.ne_of_gt hzlt) (hs₇.extBut _ _ (Nat.ne_of_gt hzlt) (Heap.get?_push_size _ rfl))
  have hz8 : h₈.objs.size = h₅.objs.size + 1 := by rw [hs₈.1, hs₇.1, Heap.size_push]
  rw [hsz] at hz₈ hT₈ hz8
  refine wpAny_pure ⟨_, rfl, ?_⟩
  show Q (.ref h₅.objs.size) _
  rw [hsz]
  exact hQ x y h₈ _ px py hz₈ (up _ _ D.TOz hTO₅) (one_frame D1 h1₅ fun o e => up _ o D.i1z e) (one_frame D2 h2₅ fun o e => up _ o D.i2z e) hT₈ hz8 fun c o c1 c2 c3 c4 e => up c o c1 (hk₅ c o c1 c2 c3 c4 e)

theorem zipD_end {z TI TO i1 i2 : Addr} {n : Nat} {P1 : Nat → Value → Prop} {S1 : Nat → Heap → Prop} {a b : Value} {Q : Fin → Shared → Prop}
    (D1 : Draws prog w A i1 [i1] n P1 S1) (D : ZA z TI TO i1 i2)
    (hz : IsZip s.heap z TI TO .none) (hTI : IsPair s.heap TI (.ref i1) (.ref i2)) (hTO : IsPair s.heap TO a b) (h1 : S1 n s.heap)
    (hE : ∀ h' e, (∀ c o, c ≠ z → c ≠ TO → c ≠ i1 → c ≠ i2 → s.heap.get? c = some o → h'.get? c = some o) → (∃ o, h'.get? e = some o ∧ o.cls = .type "StopIteration") → E (.ref e) { s with heap := h' }) :
    wpAny (model prog w) A (Builtin.«zip.__next__» ⟨[.ref z], []⟩) Q E s := by
  obtain ⟨hp, g, d, tk₀, os⟩ := s
  show wpAny _ _ (field (.ref z) 2 >>= _) _ _ _
  refine wpAny_bind (wpAny_field hz rfl (x := .bool false) rfl ?_)
  show wpAny _ _ (field (.ref z) 3 >>= _) _ _ _
  refine wpAny_bind (wpAny_field hz rfl (x := .ref TI) rfl ?_)
  refine wpAny_bind (wpAny_seqItems hTI rfl ?_)
  show wpAny _ _ (Builtin.SmallTypes.ownedTupleIsFree (.ref z) >>= _) _ _ _
  refine wpAny_bind ?_
  unfold Builtin.SmallTypes.ownedTupleIsFree
  refine wpAny_bind (wpAny_field hz rfl (x := .none) rfl (wpAny_pure ?_))
  simp only [if_true]
  refine wpAny_bind (wpAny_rule ?_)
  refine wpAny_bind (wpAny_field hz rfl (x := .ref TO) rfl ?_)
  refine wpAny_bind (wpAny_setField_rec hz (by simp) fun h₁ hz₁ hs₁ => ?_)
  replace hz₁ : IsZip h₁ z TI TO .ellipsis := hz₁
  replace hs₁ : Heap.SameBut z hp h₁ := hs₁
  refine wpAny_bind ?_
  simp only [List.zipIdx_cons, List.zipIdx_nil, List.forIn_cons, List.forIn_nil]
  refine wpAny_bind (wpAny_bind (wpAny_onRaise ?_))
  show wpAny _ _ (Builtin.SmallTypes.nextOf (.ref i1) >>= _) _ _ _
  refine wpAny_bind (D1.done _ _ _ (one_frame D1 h1 fun o e => hs₁.extBut _ _ D.i1z e) fun h₂ e hs₂ he => ?_)
  replace hs₂ : Heap.ExtBut i1 h₁ h₂ := hs₂
  obtain ⟨oe, hoe, hce⟩ := he
  have hz₂ : IsZip h₂ z TI TO .ellipsis := hs₂ _ _ D.i1z.symm hz₁
  have hez : e ≠ z := fun x => by subst x; rw [hz₂] at hoe; cases hoe; simp at hce
  refine wpAny_setField_rec hz₂ (by simp) fun h₃ _ hs₃ => hE h₃ e (fun c o c1 _ c3 _ x => hs₃.extBut _ _ c1 (hs₂ _ _ c3 (hs₁.extBut _ _ c1 x))) ⟨oe, hs₃.extBut _ _ hez hoe, hce⟩

theorem zipD_walks {z TI TO i1 i2 : Addr} {n : Nat} {P1 P2 : Nat → Value → Prop} {S1 S2 : Nat → Heap → Prop} (D1 : Draws prog w A.in1 i1 [i1] n P1 S1) (D2 : Draws prog w A.in1 i2 [i2] n P2 S2) (D : ZA z TI TO i1 i2) :
    WalksT prog w A z [z, TI, TO, i1, i2] [z, TO, i1, i2] n
      (fun i vals => ∃ x y, P1 i x ∧ P2 i y ∧ vals = #[x, y])
      (fun i h => IsZip h z TI TO .none ∧ IsPair h TI (.ref i1) (.ref i2) ∧ (∃ a b, IsPair h TO a b) ∧ S1 i h ∧ S2 i h)
      (fun i T h => IsZip h z TI TO (rawInt T) ∧ IsPair h TI (.ref i1) (.ref i2) ∧ (∃ a b, IsPair h TO a b) ∧ S1 (i + 1) h ∧ S2 (i + 1) h ∧ T ≠ z ∧ T ≠ TO ∧ T ≠ i1 ∧ T ≠ i2) where
  sub := fun c hc => by simp at hc ⊢; rcases hc with rfl | rfl | rfl | rfl <;> simp
  frame := fun i h h' hst hk => by
    obtain ⟨hz, hTI, ⟨a, b, hTO⟩, h1, h2⟩ := hst
    exact ⟨hk z (by simp) _ hz, hk TI (by simp) _ hTI, ⟨a, b, hk TO (by simp) _ hTO⟩, one_frame D1 h1 fun o e => hk i1 (by simp) o e, one_frame D2 h2 fun o e => hk i2 (by simp) o e⟩
  item := fun i s Q E hi hst hQ => by
    obtain ⟨hz, hTI, ⟨a, b, hTO⟩, h1, h2⟩ := hst
    have hT : s.TypeIs (.ref z) "zip" := ⟨_, hz, rfl⟩
    have lt : ∀ {c o}, s.heap.get? c = some o → s.heap.objs.size ≠ c := fun e => Nat.ne_of_gt (Heap.lt_size e)
    unfold pyNext
    refine wpAny_bind (wpAny_attempt (wpAny_callSpecial?_slot (name := Str.ofString "__next__") hT PySem.F.slot_zip_next
      (wpAny_call_entry PySem.F.slot_zip_next hT PySem.F.entry_zip_next
        (zipD_item D1 D2 D hi hz hTI hTO h1 h2 fun x y h' tk px py a1 a2 a3 a4 a5 a6 hk => wpAny_pure ?_) (PySem.F.args_zip_next_1 _))))
    exact hQ s.heap.objs.size #[x, y] h' tk ⟨x, y, px, py, rfl⟩ (Nat.le_refl _) ⟨_, a5, rfl, _, rfl⟩
      ⟨a1, hk _ _ D.TIz D.TITO D.TIi1 D.TIi2 hTI, ⟨_, _, a2⟩, a3, a4, lt hz, lt hTO, (by obtain ⟨_, e⟩ := D1.live _ _ h1; exact lt e), (by obtain ⟨_, e⟩ := D2.live _ _ h2; exact lt e)⟩
      fun c o hc e => hk c o (fun x => hc (by simp [x])) (fun x => hc (by simp [x])) (fun x => hc (by simp [x])) (fun x => hc (by simp [x])) e
  go := fun elts k pos i T s Q E hm hQ => by
    obtain ⟨hz, hTI, ⟨a, b, hTO⟩, h1, h2, _⟩ := hm
    refine wpAny_letOwnedTupleGo_zip hz fun h' hz' hs' => hQ h' ⟨hz', hs'.extBut _ _ D.TIz hTI, ⟨a, b, hs'.extBut _ _ D.TOz hTO⟩, one_frame D1 h1 fun o e => hs'.extBut _ _ D.i1z e, one_frame D2 h2 fun o e => hs'.extBut _ _ D.i2z e⟩
      fun c o hc e => hs'.extBut _ _ (fun x => hc (by simp [x])) e
  apart := fun i T h hm hT => by
    obtain ⟨_, _, _, _, _, t1, t2, t3, t4⟩ := hm
    simp at hT
    rcases hT with rfl | rfl | rfl | rfl
    · exact t1 rfl
    · exact t2 rfl
    · exact t3 rfl
    · exact t4 rfl
  done := fun s Q E hst hQ => by
    obtain ⟨hz, hTI, ⟨a, b, hTO⟩, h1, h2⟩ := hst
    have hT : s.TypeIs (.ref z) "zip" := ⟨_, hz, rfl⟩
    unfold pyNext
    refine wpAny_bind (wpAny_attempt (wpAny_callSpecial?_slot (name := Str.ofString "__next__") hT PySem.F.slot_zip_next
      (wpAny_call_entry PySem.F.slot_zip_next hT PySem.F.entry_zip_next (zipD_end D1 D hz hTI hTO h1 fun h' e hk he => ?_) (PySem.F.args_zip_next_1 _))))
    obtain ⟨o, ho, hc⟩ := he
    refine wpAny_bind (wpAny_isInstance (T := "StopIteration") (b := true) ⟨o, ho, hc⟩ isSubtype_stop ?_)
    exact wpAny_pure (hQ _ s.toks fun c o hc e => hk c o (fun x => hc (by simp [x])) (fun x => hc (by simp [x])) (fun x => hc (by simp [x])) (fun x => hc (by simp [x])) e)
  self := fun i s Q E hst hQ => wpAny_pyIter_zip hst.1 hQ
end
end Mine
end

section
namespace Mine
open PySem PySem.W PyProof.Rows PySem.Spec PySem.Calls PyProof.Rows.LCg
/-- a source of a loop: its iterator stands, its own objects apart from the ledger -/
structure Src (prog : Program) (w : World) (A : Around) (target : Expr) (h₀ : Heap) (L : Addr) (news : List (Addr × Obj)) (I : Addr) (n : Nat) (P : Nat → Value → Heap → Prop) (h : Heap) (fp wr : List Addr) (Md : Nat → Value → Heap → Prop) (St : Nat → Heap → Prop) (ex : List Addr) : Prop where
  W : KTurns prog w A target I fp wr n P Md St
  hL : L ∉ fp
  new : ∀ b ∈ wr, h₀.get? b = none
  off : ∀ p ∈ news, p.1 ∉ wr
  st : St 0 h
  live : ∀ i h b, St i h → b ∈ wr → ∃ o, h.get? b = some o
  self : ∀ (s : Shared) (Q : Value → Shared → Prop) (E : Value → Shared → Prop), St 0 s.heap → Q (.ref I) s → wpAny (model prog w) A (pyIter (.ref I)) Q E s
  lt : ∀ b ∈ fp, b < h.objs.size
  rest : ∀ b ∈ fp, b ∈ wr ∨ (∃ o, h₀.get? b = some o) ∨ b ∈ ex
/-- a turn's end: the ledger and the iterator's own objects stand -/
inductive TurnEnd (h₀ : Heap) (L : Addr) (own : List (Addr × Obj)) (wr : List Addr) (J : (Str → Option Value) → List (Addr × Obj) → Prop) (s₁ s₂ : Shared) : Prop
  | intro (h' : Heap) (tk : Nat) (m' : Str → Option Value) (news' : List (Addr × Obj)) (e : s₂ = { s₁ with heap := h', toks := tk }) (F : Fr h₀ L h' m') (N : News h₀ L h' (news' ++ own)) (off : ∀ p ∈ news', p.1 ∉ wr) (j : J m' news')
noncomputable def TurnPost (h₀ : Heap) (L : Addr) (own : List (Addr × Obj)) (wr : List Addr) (J : (Str → Option Value) → List (Addr × Obj) → Prop) (s₁ : Shared) (Q : Flow → Shared → Prop) (f : Flow) (s₂ : Shared) : Prop :=
  match f with
  | .ret v => Q (.ret v) s₂
  | .brk => Q .next s₂
  | _ => TurnEnd h₀ L own wr J s₁ s₂
inductive ForInv (h₀ : Heap) (L : Addr) (wr : List Addr) (n : Nat) (St : Nat → Heap → Prop) (J : Nat → (Str → Option Value) → List (Addr × Obj) → Prop) (s : Shared) (k : Nat) (s' : Shared) : Prop
  | intro (h' : Heap) (tk : Nat) (m' : Str → Option Value) (news' : List (Addr × Obj)) (i : Nat) (e : s' = { s with heap := h', toks := tk }) (st : St i h') (F : Fr h₀ L h' m') (N : News h₀ L h' news') (off : ∀ p ∈ news', p.1 ∉ wr) (j : J i m' news') (hi : i ≤ n) (hk : k = n + 1 - i)
/-- what is known of the iterator's own objects -/
structure Own (h₀ h : Heap) (fp wr ex : List Addr) (own : List (Addr × Obj)) : Prop where
  sub : ∀ p ∈ own, p.1 ∈ fp
  ap : ∀ p ∈ own, p.1 ∈ wr ∨ p.1 ∈ ex
  has : ∀ b ∈ wr, ∃ o, (b, o) ∈ own
  all : ∀ b ∈ fp, h₀.get? b = none → ∀ o, h.get? b = some o → (b, o) ∈ own
section
variable {prog : Program} {w : World} {A : Around} {E : Value → Shared → Prop} {s : Shared} {env : Env} {h₀ : Heap} {target : Expr} {I : Addr} {fp wr ex : List Addr} {n : Nat} {P Md : Nat → Value → Heap → Prop} {St : Nat → Heap → Prop} {m : Str → Option Value} {news : List (Addr × Obj)}
theorem Own.frame {L : Addr} {h h' : Heap} {m₁ m' : Str → Option Value} {own l : List (Addr × Obj)} (O : Own h₀ h fp wr ex own) (F : Fr h₀ L h m₁) (F' : Fr h₀ L h' m') (N' : News h₀ L h' l) (sub : ∀ p ∈ own, p ∈ l) {b : Addr} (hb : b ∈ fp) {o : Obj} (e : h.get? b = some o) : h'.get? b = some o := by
  cases hn : h₀.get? b with
  | some o₀ =>
    have : o₀ = o := by have q := F.keep b o₀ hn; rw [e] at q; exact (Option.some.inj q).symm
    exact this ▸ F'.keep b o₀ hn
  | none => exact (N' _ (sub _ (O.all b hb hn o e))).1
theorem Own.of {L : Addr} {h : Heap} (W : KTurns prog w A target I fp wr n P Md St) (hL : L ∉ fp) (new : ∀ b ∈ wr, h₀.get? b = none) (rest : ∀ b ∈ fp, b ∈ wr ∨ (∃ o, h₀.get? b = some o) ∨ b ∈ ex) (live : ∀ i h b, St i h → b ∈ wr → ∃ o, h.get? b = some o) {i : Nat} (st : St i h) : Own h₀ h fp wr ex (PyProof.Rows.ownOf h₀ fp h) where
  sub := ownOf_sub
  ap := fun p hp => by
    have z := (news_ownOf (h₀ := h₀) (h := h) hL p hp).2.2
    rcases rest p.1 (ownOf_sub p hp) with h | ⟨o, h⟩ | h
    · exact .inl h
    · rw [z] at h; cases h
    · exact .inr h
  has := fun b hb => let ⟨o, e⟩ := live i h b st hb; ⟨o, mem_ownOf (W.sub b hb) (new b hb) e⟩
  all := fun b hb hn o e => mem_ownOf hb hn e

theorem for_run {body orelse : List Stmt} {R : Result → Shared → Prop} (X : Src prog w A target h₀ env.locals news I n P s.heap fp wr Md St ex) (F : Fr h₀ env.locals s.heap m) (N : News h₀ env.locals s.heap news)
    (J : Nat → (Str → Option Value) → List (Addr × Obj) → Prop) (h0 : J 0 m news)
    (step : ∀ i v m₁ news₁ h₁ tk₁ own, i < n → P i v h₁ → J i m₁ news₁ → (∀ p ∈ news₁, p.1 ∉ wr) → Own h₀ h₁ fp wr ex own → Fr h₀ env.locals h₁ m₁ → News h₀ env.locals h₁ (news₁ ++ own) →
      wpAny (model prog w) A (assign target env v) (fun _ s₂ => wpAny (model prog w) A (execs body env)
        (TurnPost h₀ env.locals own wr (J (i + 1)) { s with heap := h₁, toks := tk₁ } fun f s' => R (.ok f) s') (notedBy (model prog w) A env fun e s' => R (.error e) s') s₂) (notedBy (model prog w) A env fun e s' => R (.error e) s') { s with heap := h₁, toks := tk₁ })
    (els : ∀ h' tk m' news', Fr h₀ env.locals h' m' → News h₀ env.locals h' news' → J n m' news' → wpAny (model prog w) A (execs orelse env) (fun f s' => R (.ok f) s') (notedBy (model prog w) A env fun e s' => R (.error e) s') { s with heap := h', toks := tk }) :
    codeAny (model prog w) A (.forLoop target (.ref I) body orelse env) R s := by
  have W := X.W
  have hLw : env.locals ∉ wr := fun h => X.hL (W.sub _ h)
  have old : ∀ b o, h₀.get? b = some o → b ∉ wr := fun b o e hb => by rw [X.new b hb] at e; cases e
  refine codeAny_forLoop_any
    (ForInv h₀ env.locals wr n St J s) ?_ (n + 1)
    ⟨s.heap, s.toks, m, news, 0, rfl, X.st, F, N, X.off, h0, Nat.zero_le _, rfl⟩
  rintro k s' ⟨h', tk, m', news', i, rfl, hst', F', N', hnw', hJ, hi, rfl⟩
  have next : ∀ h₁ : Heap, (∀ b o, b ∉ wr → h'.get? b = some o → h₁.get? b = some o) → Fr h₀ env.locals h₁ m' ∧ News h₀ env.locals h₁ news' := fun h₁ hk₁ =>
    ⟨⟨F'.ns.at' fun o e => hk₁ _ o hLw e, fun b o e => hk₁ b o (old b o e) (F'.keep b o e), F'.above⟩, fun p hp => ⟨hk₁ _ _ (hnw' p hp) (N' p hp).1, (N' p hp).2⟩⟩
  by_cases hlt : i < n
  · refine W.item i _ _ _ hlt hst' fun v h₁ tk₁ hMd hk₁ => ?_
    refine W.go i v _ _ _ hMd fun h₂ hP hst₂ hk₂ => ?_
    obtain ⟨F₂, N₂⟩ := next h₂ fun b o hb x => hk₂ b o hb (hk₁ b o hb x)
    have Nown : News h₀ env.locals h₂ (PyProof.Rows.ownOf h₀ fp h₂) := news_ownOf X.hL
    have O : Own h₀ h₂ fp wr ex (PyProof.Rows.ownOf h₀ fp h₂) := Own.of W X.hL X.new X.rest X.live hst₂
    refine wpAny_mono (step i v m' news' h₂ tk₁ _ hlt hP hJ hnw' O F₂ (N₂.append Nown)) (fun _ s₂ h₂' => wpAny_mono h₂' (fun f s₃ h₃ => ?_) fun _ _ e => e) fun _ _ e => e
    have fin : TurnEnd h₀ env.locals (PyProof.Rows.ownOf h₀ fp h₂) wr (J (i + 1)) { s with heap := h₂, toks := tk₁ } s₃ →
        ∃ m, m < n + 1 - i ∧ ForInv h₀ env.locals wr n St J s m s₃ := by
      rintro ⟨h₃', tk₃, m₂, news₂, rfl, F₃, N₃, ha₃, hJ₃⟩
      exact ⟨n + 1 - (i + 1), by omega, h₃', tk₃, m₂, news₂, i + 1, rfl, W.frame _ _ _ hst₂ fun b hb o e => O.frame F₂ F₃ N₃ (fun p hp => List.mem_append_right _ hp) hb e, F₃, fun p hp => N₃ p (List.mem_append_left _ hp), ha₃, hJ₃, hlt, rfl⟩
    cases f with
    | ret v => exact h₃
    | brk => exact h₃
    | cont => exact fin h₃
    | next => exact fin h₃
  · have hin : i = n := by omega
    subst hin
    refine W.done _ _ _ hst' fun h₁ tk₁ hk₁ => ?_
    obtain ⟨F₁, N₁⟩ := next h₁ hk₁
    exact els h₁ tk₁ m' news' F₁ N₁ hJ

/-- a for: its source laid, its turns by what they keep -/
inductive ForAt (prog : Program) (w : World) (A : Around) (h₀ : Heap) (env : Env) (target : Expr) (body orelse : List Stmt) (Q : Flow → Shared → Prop) (E : Value → Shared → Prop) (it : Value) (s₂ : Shared) : Prop
  | intro (I : Addr) (n : Nat) (P : Nat → Value → Heap → Prop) (fp wr ex : List Addr) (Md : Nat → Value → Heap → Prop) (St : Nat → Heap → Prop) (m : Str → Option Value) (news : List (Addr × Obj)) (J : Nat → (Str → Option Value) → List (Addr × Obj) → Prop)
    (e : it = .ref I) (X : Src prog w A target h₀ env.locals news I n P s₂.heap fp wr Md St ex) (F : Fr h₀ env.locals s₂.heap m) (N : News h₀ env.locals s₂.heap news) (h0 : J 0 m news)
    (step : ∀ i v m₁ news₁ h₁ tk₁ own, i < n → P i v h₁ → J i m₁ news₁ → (∀ p ∈ news₁, p.1 ∉ wr) → Own h₀ h₁ fp wr ex own → Fr h₀ env.locals h₁ m₁ → News h₀ env.locals h₁ (news₁ ++ own) →
      wpAny (model prog w) A (assign target env v) (fun _ s₃ => wpAny (model prog w) A (execs body env) (TurnPost h₀ env.locals own wr (J (i + 1)) { s₂ with heap := h₁, toks := tk₁ } Q) E s₃) E { s₂ with heap := h₁, toks := tk₁ })
    (els : ∀ h' tk m' news', Fr h₀ env.locals h' m' → News h₀ env.locals h' news' → J n m' news' → wpAny (model prog w) A (execs orelse env) Q E { s₂ with heap := h', toks := tk })

theorem ForAt.go {body orelse : List Stmt} {Q : Flow → Shared → Prop} {hI : Heap} {g : Array GenState} {d : Drawn} {tk : Nat} {o : OsState} (J : Nat → (Str → Option Value) → List (Addr × Obj) → Prop)
    (X : Src prog w A target h₀ env.locals news I n P hI fp wr Md St ex) (F : Fr h₀ env.locals hI m) (N : News h₀ env.locals hI news) (h0 : J 0 m news)
    (step : ∀ i v m₁ news₁ h₁ tk₁ own, i < n → P i v h₁ → J i m₁ news₁ → (∀ p ∈ news₁, p.1 ∉ wr) → Own h₀ h₁ fp wr ex own → Fr h₀ env.locals h₁ m₁ → News h₀ env.locals h₁ (news₁ ++ own) →
      wpAny (model prog w) A (assign target env v) (fun _ s₃ => wpAny (model prog w) A (execs body env) (TurnPost h₀ env.locals own wr (J (i + 1)) ⟨h₁, g, d, tk₁, o⟩ Q) E s₃) E ⟨h₁, g, d, tk₁, o⟩)
    (els : ∀ h' tk m' news', Fr h₀ env.locals h' m' → News h₀ env.locals h' news' → J n m' news' → wpAny (model prog w) A (execs orelse env) Q E ⟨h', g, d, tk, o⟩) : ForAt prog w A h₀ env target body orelse Q E (.ref I) ⟨hI, g, d, tk, o⟩ := .intro I n P fp wr ex Md St m news J rfl X F N h0 step els
theorem For_at {iter : Expr} {body orelse : List Stmt} {pos : Pos} {Q : Flow → Shared → Prop} (_F : Fr h₀ env.locals s.heap m)
    (h : wpAny (model prog w) A (eval iter env) (fun xv s₁ => wpAny (model prog w) A (pyIter xv) (fun it s₂ => ForAt prog w A h₀ env target body orelse Q E it s₂) E s₁) E s)
    (hs : ∀ x, foldedSetIterable iter env x = pure x := by intro _; rfl)
    (hE : PassesOwn (model prog w) A env E := by passes_own) :
    wpAny (model prog w) A (exec (.For target iter body orelse pos) env) Q E s := by
  refine wpAny_For (wpAny_mono h (fun xv s₁ h₁ => wpAny_mono h₁ (fun it s₂ h₂ => ?_) fun _ _ e => e) fun _ _ e => e) hs
  obtain ⟨I, n, P, fp, wr, ex, Md, St, m, news, J, rfl, X, F, N, h0, step, els⟩ := h₂
  refine for_run (R := fun r s' => match r with | .ok f => Q f s' | .error e => cameBackBy (model prog w) A env E e s') X F N J h0 (fun i v m₁ news₁ h₁ tk₁ own a b c d e F₁ N₁ => ?_) (fun h' tk m' news' F' N' j => wpAny_mono (els h' tk m' news' F' N' j) (fun _ _ x => x) hE)
  exact wpAny_mono (step i v m₁ news₁ h₁ tk₁ own a b c d e F₁ N₁) (fun _ _ x => wpAny_mono x (fun _ _ y => y) hE) hE
end

/-- the tests and the element of one turn of a comprehension -/
noncomputable def LcBody (prog : Program) (w : World) (A : Around) (ifs : List Expr) (elt : Expr) (cenv : Env) (Y : Value → Shared → Prop) (Z : Shared → Prop) (E : Value → Shared → Prop) (s : Shared) : Prop :=
  match ifs with
  | [] => wpAny (model prog w) A (eval elt cenv) Y E s
  | [c] => wpAny (model prog w) A (isTrue c cenv (eval c cenv)) (fun ok s' => if ok = true then wpAny (model prog w) A (eval elt cenv) Y E s' else Z s') E s
  | _ => False
/-- a turn's end -/
inductive LcEnd (h₀ : Heap) (L : Addr) (m : Str → Option Value) (C D : Addr) (ys : List Value) (own : List (Addr × Obj)) (wr : List Addr) (K : List (Addr × Obj) → Prop) (s₁ s₂ : Shared) : Prop
  | intro (h' : Heap) (tk : Nat) (oC : Obj) (m₂ : Str → Option Value) (news' : List (Addr × Obj)) (e : s₂ = { s₁ with heap := h', toks := tk }) (F : Fr h₀ L h' m) (hC : NsObj oC m₂) (N : News h₀ L h' ((C, oC) :: (D, lst ys) :: (news' ++ own))) (off : ∀ p ∈ news', p.1 ∉ wr ∧ p.1 ≠ C ∧ p.1 ≠ D) (k : K news')
section
variable {prog : Program} {w : World} {A : Around} {E : Value → Shared → Prop} {s : Shared} {env : Env} {h₀ : Heap} {L : Addr} {target : Expr} {I : Addr} {fp wr ex : List Addr} {n : Nat} {P Md : Nat → Value → Heap → Prop} {St : Nat → Heap → Prop} {m : Str → Option Value} {news : List (Addr × Obj)}
theorem lc_loop {elt iter : Expr} {ifs : List Expr} {scope : Scope} {pos : Pos} {it acc : Value} {env : Env} {R : Result → Shared → Prop} (Inv : Nat → Shared → Prop)
    (turn : ∀ n s, Inv n s → wpAny (model prog w) A (pyNext it) (fun r s₁ => match r with
      | none => R (.ok .next) s₁
      | some v => wpAny (model prog w) A (letOwnedTupleGo target it v) (fun _ s₀ => wpAny (model prog w) A (assign target env v) (fun _ s₂ =>
          LcBody prog w A ifs elt env (fun x s₄ => wpAny (model prog w) A (call (.builtin "list.append") [acc, x]) (fun _ s₅ => ∃ m, m < n ∧ Inv m s₅) (notedBy (model prog w) A env fun e s' => R (.error e) s') s₄) (fun s₅ => ∃ m, m < n ∧ Inv m s₅) (notedBy (model prog w) A env fun e s' => R (.error e) s') s₂)
          (notedBy (model prog w) A env fun e s' => R (.error e) s') s₀) (notedBy (model prog w) A env fun e s' => R (.error e) s') s₁) (notedBy (model prog w) A env fun e s' => R (.error e) s') s)
    (n : Nat) (h : Inv n s) : codeAny (model prog w) A (.compLoop (.ListComp elt [⟨target, iter, ifs, 0⟩] scope pos) 0 it acc env) R s := by
  refine codeAny_loop rfl Inv (fun n s hI => ?_) n h
  show wpAny _ A ((compTurn (.ListComp elt [⟨target, iter, ifs, 0⟩] scope pos) 0 it acc env).onRaise (fun x => do noteFrame x env; theTreesLotGoes x)) _ _ s
  refine wpAny_noted ?_
  rw [compTurn_list]
  refine wpAny_bind (wpAny_standAt (wpAny_bind (wpAny_mono (turn n s hI) (fun r s₁ h₁ => ?_) fun _ _ h' => h')))
  cases r with
  | none => exact wpAny_pure h₁
  | some v =>
    refine wpAny_bind (wpAny_mono h₁ (fun _ s₀ h₀' => ?_) fun _ _ h' => h')
    refine wpAny_bind (wpAny_mono h₀' (fun _ s₂ h₂ => ?_) fun _ _ h' => h')
    cases ifs with
    | nil =>
      refine wpAny_bind (wpAny_tests_nil ?_)
      exact wpAny_bind (wpAny_bind (wpAny_mono h₂ (fun x s₄ h₄ => wpAny_bind (wpAny_mono h₄ (fun _ s₅ h₅ => wpAny_pure (wpAny_pure ⟨rfl, h₅⟩)) fun _ _ h' => h')) fun _ _ h' => h'))
    | cons c r =>
      cases r with
      | cons _ _ => exact False.elim h₂
      | nil =>
        refine wpAny_bind (wpAny_tests_one (wpAny_mono (show wpAny (model prog w) A (isTrue c env (eval c env)) _ _ s₂ from h₂) (fun ok s₃ h₃ => ?_) fun _ _ h' => h'))
        cases ok with
        | true =>
          simp only [if_true] at h₃ ⊢
          exact wpAny_bind (wpAny_bind (wpAny_mono h₃ (fun x s₄ h₄ => wpAny_bind (wpAny_mono h₄ (fun _ s₅ h₅ => wpAny_pure (wpAny_pure ⟨rfl, h₅⟩)) fun _ _ h' => h')) fun _ _ h' => h'))
        | false =>
          simp only [Bool.false_eq_true, if_false] at h₃ ⊢
          exact wpAny_bind (wpAny_pure (wpAny_pure ⟨rfl, h₃⟩))
end
end Mine
end

section
namespace Mine
open PySem PySem.W PyProof.Rows PySem.Spec PySem.Calls PyProof.Rows.LCg
section
variable {prog : Program} {w : World} {A : Around} {E : Value → Shared → Prop} {s : Shared} {env : Env} {h₀ : Heap} {L : Addr} {target : Expr} {I : Addr} {fp wr ex : List Addr} {n : Nat} {P Md : Nat → Value → Heap → Prop} {St : Nat → Heap → Prop} {m : Str → Option Value} {news : List (Addr × Obj)}
theorem LcBody.mono {ifs : List Expr} {elt : Expr} {cenv : Env} {Y Y' : Value → Shared → Prop} {Z Z' : Shared → Prop} (h : LcBody prog w A ifs elt cenv Y Z E s) (hy : ∀ y s', Y y s' → Y' y s') (hz : ∀ s', Z s' → Z' s') : LcBody prog w A ifs elt cenv Y' Z' E s := by
  match ifs, h with
  | [], h => exact wpAny_mono h hy fun _ _ e => e
  | [c], h =>
    refine wpAny_mono h (fun ok s' h' => ?_) fun _ _ e => e
    cases ok with
    | true => simp only [if_true] at h' ⊢; exact wpAny_mono h' hy fun _ _ e => e
    | false => simp only [Bool.false_eq_true, if_false] at h' ⊢; exact hz _ h'
  | _ :: _ :: _, h => exact h

/-- one turn, the name's object C and the list D on the ledger -/
noncomputable def LcTurn (prog : Program) (w : World) (A : Around) (target : Expr) (ifs : List Expr) (elt : Expr) (scope : Scope) (cl : List (Str × Addr)) (env : Env) (h₀ : Heap) (L : Addr) (m : Str → Option Value) (n : Nat) (P : Nat → Value → Heap → Prop) (fp wr ex : List Addr) (J : Nat → List Value → List (Addr × Obj) → Prop) (g : Array GenState) (d : Drawn) (o : OsState) : Prop :=
  ∀ (i : Nat) (v : Value) (ys : List Value) (news₁ own : List (Addr × Obj)) (C : Addr) (oC : Obj) (D : Addr) (m₂ : Str → Option Value) (h : Heap) (tk : Nat) (E' : Value → Shared → Prop), i < n → P i v h → J i ys news₁ → Own h₀ h fp wr ex own →
    (∀ p ∈ news₁, p.1 ∉ wr ∧ p.1 ≠ C ∧ p.1 ≠ D) → (∀ p ∈ own, p.1 ≠ C ∧ p.1 ≠ D) → C ≠ D → NsObj oC m₂ → Fr h₀ L h m → News h₀ L h ((C, oC) :: (D, lst ys) :: (news₁ ++ own)) →
    wpAny (model prog w) A (assign target (compEnvC scope cl C env) v) (fun _ s₃ => LcBody prog w A ifs elt (compEnvC scope cl C env)
      (fun y s₄ => LcEnd h₀ L m C D ys own wr (J (i + 1) (ys ++ [y])) ⟨h, g, d, tk, o⟩ s₄) (fun s₄ => LcEnd h₀ L m C D ys own wr (J (i + 1) ys) ⟨h, g, d, tk, o⟩ s₄) E' s₃) E' ⟨h, g, d, tk, o⟩

inductive LcInv (h₀ : Heap) (L C D : Addr) (m : Str → Option Value) (wr : List Addr) (n : Nat) (St : Nat → Heap → Prop) (J : Nat → List Value → List (Addr × Obj) → Prop) (s : Shared) (k : Nat) (s' : Shared) : Prop
  | intro (h' : Heap) (tk i : Nat) (ys : List Value) (m' : Str → Option Value) (news' : List (Addr × Obj)) (e : s' = { s with heap := h', toks := tk }) (hi : i ≤ n) (hk : k = n + 1 - i) (hyl : ys.length ≤ i) (st : St i h') (F : Fr h₀ L h' m) (hn : h'.Ns C m') (N : News h₀ L h' ((D, lst ys) :: news')) (off : ∀ p ∈ news', p.1 ∉ wr ∧ p.1 ≠ C ∧ p.1 ≠ D) (j : J i ys news')
theorem lc_block {elt iter : Expr} {ifs : List Expr} {scope : Scope} {cl : List (Str × Addr)} {pos : Pos} {s₂ : Shared} {RR : Value → Addr → Result → Shared → Prop} (X : Src prog w A target h₀ L news I n P s₂.heap fp wr Md St ex) (hsz : n ≤ sizeLine)
    (hcell : ∀ y ∈ scope.names, y.2 ≠ .cell) (hkind : scope.kind = .function) (F : Fr h₀ L s₂.heap m) (N : News h₀ L s₂.heap news)
    (J : Nat → List Value → List (Addr × Obj) → Prop) (h0 : J 0 [] news) (turn : LcTurn prog w A target ifs elt scope cl env h₀ L m n P fp wr ex J s₂.gens s₂.drawn s₂.os)
    (hRR : ∀ D C h tk m' ys news', Fr h₀ L h m → News h₀ L h ((D, lst ys) :: news') → (∀ p ∈ news', p.1 ≠ D) → h.Ns C m' → h₀.get? C = none → C ≠ L → C ≠ D → (∀ p ∈ news', p.1 ≠ C) → J n ys news' → RR (.ref D) C (.ok .next) { s₂ with heap := h, toks := tk }) :
    wpAny (model prog w) A (newList []) (fun acc s₃ => wpAny (model prog w) A (newFunctionEnv scope env.globals cl [] env.qual none .none (some env)) (fun cenv s₄ =>
      codeAny (model prog w) A (.compStart (.ListComp elt [⟨target, iter, ifs, 0⟩] scope pos) 0 (.ref I) acc { cenv with scope := relabel scope env }) (RR acc cenv.locals) s₄) E s₃) E s₂ := by
  have W := X.W
  refine wpAny_newObj_type (wpAny_newFunctionEnv hcell (by intro y hy; simp at hy) (fun h₁ hns₁ hsb₁ => ?_) hkind)
  dsimp only at hns₁ hsb₁ ⊢
  generalize hH2 : s₂.heap.push { cls := .type "list", dict := none, data := .seq ([] : List Value).toArray } = H2 at hns₁ hsb₁ ⊢
  have hC : H2.objs.size = s₂.heap.objs.size + 1 := by rw [← hH2, Heap.size_push]
  have hCD : H2.objs.size ≠ s₂.heap.objs.size := by rw [hC]; exact Nat.ne_of_gt (Nat.lt_succ_self _)
  have below : ∀ b, b < s₂.heap.objs.size → b ≠ H2.objs.size ∧ b ≠ s₂.heap.objs.size := fun b hb => ⟨by rw [hC]; exact Nat.ne_of_lt (Nat.lt_succ_of_lt hb), Nat.ne_of_lt hb⟩
  have hDf : s₂.heap.objs.size ∉ fp := fun hm => Nat.lt_irrefl _ (X.lt _ hm)
  have hCf : H2.objs.size ∉ fp := fun hm => by have := X.lt _ hm; rw [hC] at this; exact Nat.lt_irrefl _ (Nat.lt_of_succ_lt this)
  have hDw : s₂.heap.objs.size ∉ wr := fun h => hDf (W.sub _ h)
  have hCw : H2.objs.size ∉ wr := fun h => hCf (W.sub _ h)
  have hLw : L ∉ wr := fun h => X.hL (W.sub _ h)
  have old₀ : ∀ b o, h₀.get? b = some o → b ∉ wr := fun b o e hb => by rw [X.new b hb] at e; cases e
  have old : ∀ b o, s₂.heap.get? b = some o → h₁.get? b = some o := fun b o e => hsb₁.extBut b o (below b (Heap.lt_size e)).1 (Heap.get?_push_of_some _ (hH2 ▸ Heap.get?_push_of_some _ e))
  have hacc : h₁.get? s₂.heap.objs.size = some (lst []) := hsb₁.extBut _ _ hCD.symm (Heap.get?_push_of_some _ (hH2 ▸ Heap.get?_push_size _ rfl))
  have hst₁ : St 0 h₁ := W.frame _ _ _ X.st fun b _ o e => old b o e
  have fresh₀ : ∀ a, s₂.heap.objs.size ≤ a → h₀.get? a = none := fun a ha => by
    cases e : h₀.get? a with
    | none => rfl
    | some o' => exact absurd (Heap.lt_size (F.keep a o' e)) (Nat.not_lt.mpr ha)
  have hD₀ : h₀.get? s₂.heap.objs.size = none := fresh₀ _ (Nat.le_refl _)
  have hC₀ : h₀.get? H2.objs.size = none := fresh₀ _ (by rw [hC]; exact Nat.le_succ _)
  have hLlt : L < s₂.heap.objs.size := F.ns.lt
  have hDL : s₂.heap.objs.size ≠ L := Ne.symm (below L hLlt).2
  have hCL : H2.objs.size ≠ L := Ne.symm (below L hLlt).1
  have off₀ : ∀ p ∈ news, p.1 ∉ wr ∧ p.1 ≠ H2.objs.size ∧ p.1 ≠ s₂.heap.objs.size := fun p hp => ⟨X.off p hp, (below _ (Heap.lt_size (N p hp).1)).1, (below _ (Heap.lt_size (N p hp).1)).2⟩
  have loop : ∀ s₃ : Shared, s₃ = { s₂ with heap := h₁, toks := s₂.toks + ([] : List (Str × Value)).length } →
      codeAny (model prog w) A (.compLoop (.ListComp elt [⟨target, iter, ifs, 0⟩] scope pos) 0 (.ref I) (.ref s₂.heap.objs.size) (compEnvC scope cl H2.objs.size env))
        (RR (.ref s₂.heap.objs.size) H2.objs.size) s₃ := by
    rintro s₃ rfl
    refine lc_loop
      (LcInv h₀ L H2.objs.size s₂.heap.objs.size m wr n St J s₂) ?_ (n + 1)
      ⟨h₁, _, 0, [], _, news, rfl, Nat.zero_le _, rfl, Nat.le_refl _, hst₁, F.keeps old, hns₁, fun p hp => ?_, off₀, h0⟩
    · rintro k s' ⟨h', tk, i, ys, m', news', rfl, hi, rfl, hyl, hst', F', hn', N', off', hJ⟩
      have next : ∀ h₂ : Heap, (∀ b o, b ∉ wr → h'.get? b = some o → h₂.get? b = some o) → Fr h₀ L h₂ m ∧ News h₀ L h₂ ((s₂.heap.objs.size, lst ys) :: news') ∧ h₂.Ns H2.objs.size m' := fun h₂ hk₂ =>
        ⟨⟨F'.ns.at' fun o e => hk₂ _ o hLw e, fun b o e => hk₂ b o (old₀ b o e) (F'.keep b o e), F'.above⟩, fun p hp => ⟨hk₂ _ _ (by
          rcases List.mem_cons.mp hp with rfl | hp
          · exact hDw
          · exact (off' p hp).1) (N' p hp).1, (N' p hp).2⟩, hn'.at' fun o e => hk₂ _ o hCw e⟩
      by_cases hlt : i < n
      · refine W.item i _ _ _ hlt hst' fun v h₂ tk₂ hMd hk₂ => ?_
        refine W.go i v _ _ _ hMd fun h₃ hP hst₃ hk₃ => ?_
        obtain ⟨F₃, N₃, hn₃⟩ := next h₃ fun b o hb e => hk₃ b o hb (hk₂ b o hb e)
        obtain ⟨oC, heC, hoC⟩ := ns_obj hn₃
        have O : Own h₀ h₃ fp wr ex (PyProof.Rows.ownOf h₀ fp h₃) := Own.of W X.hL X.new X.rest X.live hst₃
        have Nown : News h₀ L h₃ (PyProof.Rows.ownOf h₀ fp h₃) := news_ownOf X.hL
        have N₄ : News h₀ L h₃ ((H2.objs.size, oC) :: (s₂.heap.objs.size, lst ys) :: (news' ++ PyProof.Rows.ownOf h₀ fp h₃)) := fun p hp => by
          revert p; exact (all_cons (⟨heC, hCL, hC₀⟩) (all_cons (N₃ _ (.head _)) (all_app (fun p hp => (N₃ _ (.tail _ hp))) (fun p hp => (Nown _ hp)))))
        have offO : ∀ p ∈ PyProof.Rows.ownOf h₀ fp h₃, p.1 ≠ H2.objs.size ∧ p.1 ≠ s₂.heap.objs.size := fun p hp => ⟨fun e => hCf (e ▸ O.sub p hp), fun e => hDf (e ▸ O.sub p hp)⟩
        refine wpAny_mono (turn i v ys news' _ H2.objs.size oC s₂.heap.objs.size m' h₃ tk₂ _ hlt hP hJ O off' offO hCD hoC F₃ N₄) (fun _ s₅ h₅ => LcBody.mono h₅ (fun y s₆ h₆ => ?_) fun s₆ h₆ => ?_) fun _ _ e => e
        · obtain ⟨h₄, tk₄, oC₄, m₄, news₄, rfl, F₄, hoC₄, N₄, off₄, hJ₄⟩ := h₆
          have zC := (N₄ _ (.head _)).1
          have zD := (N₄ _ (.tail _ (.head _))).1
          have N₄' : News h₀ L h₄ (news₄ ++ PyProof.Rows.ownOf h₀ fp h₃) := fun p hp => N₄ p (.tail _ (.tail _ hp))
          have hst₄ : St (i + 1) h₄ := W.frame _ _ _ hst₃ fun b hb o e => O.frame F₃ F₄ N₄' (fun p hp => List.mem_append_right _ hp) hb e
          refine append_at (hsz := by show ys.toArray.size ≤ sizeLine; rw [List.size_toArray]; exact Nat.le_trans hyl (Nat.le_trans hi hsz)) zD fun h₅ hs₅ hD₅ => ?_
          refine ⟨n + 1 - (i + 1), by omega (config := {}), h₅, tk₄, i + 1, ys ++ [y], _, news₄, rfl, hlt, rfl, by rw [List.length_append, List.length_singleton]; omega (config := {}), W.frame _ _ _ hst₄ fun b hb o e => hs₅.extBut b o (fun q => hDf (q ▸ hb)) e, F₄.change hs₅ hDL hD₀,
            (hoC₄.ns zC).sameBut hs₅ hCD, fun p hp => ?_, off₄, hJ₄⟩
          revert p; exact (all_cons (⟨hD₅.trans (congrArg some (lst_snoc ys y)), hDL, hD₀⟩) (fun p hp => (⟨hs₅.extBut _ _ (off₄ p hp).2.2 (N₄' p (List.mem_append_left _ hp)).1, (N₄' p (List.mem_append_left _ hp)).2⟩)))
        · obtain ⟨h₄, tk₄, oC₄, m₄, news₄, rfl, F₄, hoC₄, N₄, off₄, hJ₄⟩ := h₆
          have zC := (N₄ _ (.head _)).1
          have N₄' : News h₀ L h₄ (news₄ ++ PyProof.Rows.ownOf h₀ fp h₃) := fun p hp => N₄ p (.tail _ (.tail _ hp))
          have hst₄ : St (i + 1) h₄ := W.frame _ _ _ hst₃ fun b hb o e => O.frame F₃ F₄ N₄' (fun p hp => List.mem_append_right _ hp) hb e
          refine ⟨n + 1 - (i + 1), by omega (config := {}), h₄, tk₄, i + 1, ys, _, news₄, rfl, hlt, rfl, by omega (config := {}), hst₄, F₄, hoC₄.ns zC, fun p hp => ?_, off₄, hJ₄⟩
          revert p; exact (all_cons (N₄ _ (.tail _ (.head _))) (fun p hp => (N₄' p (List.mem_append_left _ hp))))
      · obtain rfl : i = n := Nat.le_antisymm hi (Nat.not_lt.mp hlt)
        refine W.done _ _ _ hst' fun h₂ tk₂ hk₂ => ?_
        obtain ⟨F₂, N₂, hn₂⟩ := next h₂ hk₂
        exact hRR _ _ h₂ tk₂ _ ys news' F₂ N₂ (fun p hp => (off' p hp).2.2) hn₂ hC₀ hCL hCD (fun p hp => (off' p hp).2.1) hJ
    · revert p; exact (all_cons (⟨hacc, hDL, hD₀⟩) (fun p hp => (⟨old _ _ (N p hp).1, (N p hp).2⟩)))
  exact codeAny_compStart_list (loop _ rfl) (X.self _ _ _ hst₁ (loop _ rfl))

/-- a comprehension's source, turns and end -/
inductive LcAt (prog : Program) (w : World) (A : Around) (target : Expr) (ifs : List Expr) (elt : Expr) (scope : Scope) (cl : List (Str × Addr)) (env : Env) (h₀ : Heap) (L : Addr) (m : Str → Option Value) (Fin : Addr → List Value → List (Addr × Obj) → Shared → Prop) (it : Value) (s₂ : Shared) : Prop
  | intro (I : Addr) (n : Nat) (P : Nat → Value → Heap → Prop) (fp wr ex : List Addr) (Md : Nat → Value → Heap → Prop) (St : Nat → Heap → Prop) (news : List (Addr × Obj)) (J : Nat → List Value → List (Addr × Obj) → Prop)
    (e : it = .ref I) (hsz : n ≤ sizeLine) (X : Src prog w A target h₀ L news I n P s₂.heap fp wr Md St ex) (F : Fr h₀ L s₂.heap m) (N : News h₀ L s₂.heap news) (h0 : J 0 [] news) (turn : LcTurn prog w A target ifs elt scope cl env h₀ L m n P fp wr ex J s₂.gens s₂.drawn s₂.os)
    (fin : ∀ D ys news' h tk, J n ys news' → Fin D ys news' { s₂ with heap := h, toks := tk })
theorem LcAt.go {ifs : List Expr} {elt : Expr} {scope : Scope} {cl : List (Str × Addr)} {Fin : Addr → List Value → List (Addr × Obj) → Shared → Prop} {hI : Heap} {g : Array GenState} {d : Drawn} {tk : Nat} {o : OsState} (J : Nat → List Value → List (Addr × Obj) → Prop)
    (hsz : n ≤ sizeLine) (X : Src prog w A target h₀ L news I n P hI fp wr Md St ex) (F : Fr h₀ L hI m) (N : News h₀ L hI news) (h0 : J 0 [] news) (turn : LcTurn prog w A target ifs elt scope cl env h₀ L m n P fp wr ex J g d o)
    (fin : ∀ D ys news' h tk, J n ys news' → Fin D ys news' ⟨h, g, d, tk, o⟩) : LcAt prog w A target ifs elt scope cl env h₀ L m Fin (.ref I) ⟨hI, g, d, tk, o⟩ := .intro I n P fp wr ex Md St news J rfl hsz X F N h0 turn fin
/-- the list is handed on -/
noncomputable def FinEv (h₀ : Heap) (L : Addr) (m : Str → Option Value) (Q : Value → Shared → Prop) (D : Addr) (ys : List Value) (news : List (Addr × Obj)) (s : Shared) : Prop := Fr h₀ L s.heap m → News h₀ L s.heap ((D, lst ys) :: news) → (∀ p ∈ news, p.1 ≠ D) → Q (.ref D) s
theorem ListComp_at {elt iter : Expr} {ifs : List Expr} {scope : Scope} {cl : List (Str × Addr)} {pos : Pos} {Q : Value → Shared → Prop} (_F₀ : Fr h₀ L s.heap m)
    (hclos : closureFor scope env = pure cl) (hcell : ∀ y ∈ scope.names, y.2 ≠ .cell) (hkind : scope.kind = .function)
    (hnames : ∀ y ∈ scope.names, y.2 = .local → scope.names.lookup y.1 = some .local)
    (h : wpAny (model prog w) A (eval iter env) (fun xv s₁ => wpAny (model prog w) A (pyIter xv) (LcAt prog w A target ifs elt scope cl env h₀ L m (FinEv h₀ L m Q)) E s₁) E s)
    (hs : ∀ x, foldedSetIterable iter env x = pure x := by intro _; rfl) :
    wpAny (model prog w) A (eval (.ListComp elt [⟨target, iter, ifs, 0⟩] scope pos) env) Q E s := by
  rw [eval_ListComp]
  refine wpAny_comprehension_free (use := none) rfl hs hclos hkind hnames (wpAny_mono h (fun xv s₁ h₁ => wpAny_mono h₁ (fun it s₂ h₂ => ?_) fun _ _ e => e) fun _ _ e => e)
  obtain ⟨I, n, P, fp, wr, ex, Md, St, news, J, rfl, hsz, X, F, N, h0, turn, fin⟩ := h₂
  refine lc_block X hsz hcell hkind F N J h0 turn ?_
  intro D C h tk m' ys news' F' N' offD hn hC₀ hCL hCD offC hJ
  refine ⟨m', hn, fun h'' hs'' => fin D ys news' h'' tk hJ (F'.change hs'' hCL hC₀) (fun p hp => ?_) offD⟩
  refine ⟨hs''.extBut _ _ ?_ (N' p hp).1, (N' p hp).2⟩
  revert p; exact (all_cons (hCD.symm) (fun p hp => (offC p hp)))
noncomputable def FinAs (h₀ : Heap) (L : Addr) (m : Str → Option Value) (y : Str) (Q : Flow → Shared → Prop) (D : Addr) (ys : List Value) (news : List (Addr × Obj)) (s : Shared) : Prop :=
  Fr h₀ L s.heap (fun z => if z = y then some (.ref D) else m z) → News h₀ L s.heap ((D, lst ys) :: news) → (∀ p ∈ news, p.1 ≠ D) → Q .next s
theorem AssignLc_at {elt iter : Expr} {ifs : List Expr} {y : Str} {py : Pos} {scope : Scope} {cl : List (Str × Addr)} {pos spos : Pos} {Q : Flow → Shared → Prop} (_F₀ : Fr h₀ L s.heap m) (hLe : env.locals = L)
    (hsw : swapsWith (.ListComp elt [⟨target, iter, ifs, 0⟩] scope pos) (some (.Name y py)) spos.line env = pure true)
    (hclos : closureFor scope env = pure cl) (hcell : ∀ z ∈ scope.names, z.2 ≠ .cell) (hkind : scope.kind = .function)
    (hnames : ∀ z ∈ scope.names, z.2 = .local → scope.names.lookup z.1 = some .local)
    (hy : env.kindOf y = some .local) (hp : (env.scope.kind == .class || (env.scope.kind == .module && env.locals != env.globals)) = false)
    (h : wpAny (model prog w) A (eval iter env) (fun xv s₁ => wpAny (model prog w) A (pyIter xv) (LcAt prog w A target ifs elt scope cl env h₀ L m (FinAs h₀ L m y Q)) E s₁) E s)
    (hs : ∀ x, foldedSetIterable iter env x = pure x := by intro _; rfl) :
    wpAny (model prog w) A (exec (.Assign [.Name y py] (.ListComp elt [⟨target, iter, ifs, 0⟩] scope pos) spos) env) Q E s := by
  subst hLe
  rw [exec_Assign_Name_used _ _ _ _ hsw]
  refine wpAny_bind (wpAny_standAt (wpAny_bind ?_))
  show wpAny _ A (do let _ ← comprehension (.ListComp elt [⟨target, iter, ifs, 0⟩] scope pos) scope env _ (newList []) false (eval iter env) (some (assign (.Name y py) env))) _ _ s
  refine wpAny_bind (wpAny_mono (wpAny_comprehension_free (use := some (assign (.Name y py) env)) (Q := fun _ s' => Q .next s') rfl hs hclos hkind hnames
    (wpAny_mono h (fun xv s₁ h₁ => wpAny_mono h₁ (fun it s₂ h₂ => ?_) fun _ _ e => e) fun _ _ e => e)) (fun _ s' hq => wpAny_pure (wpAny_pure hq)) fun _ _ e => e)
  obtain ⟨I, n, P, fp, wr, ex, Md, St, news, J, rfl, hsz, X, F, N, h0, turn, fin⟩ := h₂
  refine lc_block X hsz hcell hkind F N J h0 turn ?_
  intro D C h tk m' ys news' F' N' offD hn hC₀ hCL hCD offC hJ
  show wpAny _ A (assign (.Name y py) env (.ref D)) _ _ _
  refine wpAny_assign_Name (wpAny_storeName_local hy F'.ns (fun h₂ hn₂ hs₂ => ?_) hp)
  have hL₀ : h₀.get? env.locals = none := Heap.get?_none_of_le F'.above
  have F₂ : Fr h₀ env.locals h₂ (fun z => if z = y then some (.ref D) else m z) := ⟨hn₂, fun b o e => hs₂.extBut b o (fun q => by rw [q, hL₀] at e; cases e) (F'.keep b o e), F'.above⟩
  refine ⟨m', hn.sameBut hs₂ hCL, fun h'' hs'' => fin D ys news' h'' _ hJ (F₂.change hs'' hCL hC₀) (fun p hp => ?_) offD⟩
  have z : h₂.get? p.1 = some p.2 := hs₂.extBut _ _ (N' p hp).2.1 (N' p hp).1
  refine ⟨hs''.extBut _ _ ?_ z, (N' p hp).2⟩
  clear z; revert p; exact (all_cons (hCD.symm) (fun p hp => (offC p hp)))
end
end Mine
end

section
namespace Mine
open PySem PySem.W PyProof.Rows PySem.Spec PySem.Calls PyProof.Rows.LCg
section
variable {prog : Program} {w : World} {A : Around} {E : Value → Shared → Prop} {s : Shared} {h₀ : Heap} {L : Addr} {m : Str → Option Value} {news : List (Addr × Obj)}
/-- the items of a source: what the name is given -/
noncomputable def Pairs (P : Nat → Value → Value → Prop) (i : Nat) (v : Value) (h : Heap) : Prop := ∃ T a b, v = .ref T ∧ P i a b ∧ h.IsTuple T #[a, b]

theorem srcEnum {elts : List Expr} {k : Nat} {pos : Pos} {l : Addr} {items : Array Value} {K : Value → Shared → Prop} (hh : A.handled = none) (F : Fr h₀ L s.heap m) (N : News h₀ L s.heap news) (hl : h₀.IsTuple l items)
    (h : ∀ I h' fp wr Md St, Src prog w A (.Tuple elts k pos) h₀ L news I items.size (Pairs fun i a b => (∃ t, a = .int i t) ∧ items[i]? = some b) h' fp wr Md St [] → Fr h₀ L h' m → News h₀ L h' news → K (.ref I) { s with heap := h' }) :
    wpAny (model prog w) A (call (.type "enumerate") [.ref l]) (fun xv s₁ => wpAny (model prog w) A (pyIter xv) K E s₁) E s := by
  obtain ⟨o, ho, hc, nn, hd⟩ := id hl
  have hls : s.heap.IsTuple l items := ⟨o, F.keep _ _ ho, hc, nn, hd⟩
  have hlt : l < s.heap.objs.size := Heap.lt_size (F.keep _ _ ho)
  have hlb : l < h₀.objs.size := Heap.lt_size ho
  have hLs : L < s.heap.objs.size := F.ns.lt
  refine call_enumTup hls fun h' hE hI hsz hk => ?_
  refine wpAny_pyIter_enum hE ?_
  have Dr := drawsTup (prog := prog) (w := w) (A := A.in1) hh s.heap.objs.size l (Nat.ne_of_lt hlt) items
  have W := KTurns.ofWalksU (elts := elts) (k := k) (pos := pos) (WalksT.enumerateD Dr (s.heap.objs.size + 1) (Nat.succ_ne_self _) (by
    intro hm
    rcases List.mem_cons.mp hm with e | hm
    · exact Nat.succ_ne_self _ e
    · exact Nat.ne_of_gt (Nat.lt_succ_of_lt hlt) (List.mem_singleton.mp hm)) (.head _)).toU
  have W' : KTurns prog w A (.Tuple elts k pos) _ _ _ _ (Pairs fun i a b => (∃ t, a = .int i t) ∧ items[i]? = some b) _ _ :=
    { sub := W.sub, frame := W.frame, item := W.item, done := W.done, go := fun i v s Q E hm hQ => W.go i v s Q E hm fun h' hP => hQ h' (by
        obtain ⟨T, vals, rfl, ⟨t, x, hx, rfl⟩, hT⟩ := hP
        exact ⟨T, _, _, rfl, ⟨⟨t, rfl⟩, hx⟩, hT⟩) }
  refine h (s.heap.objs.size + 1) h' [s.heap.objs.size + 1, s.heap.objs.size, l] [s.heap.objs.size + 1, s.heap.objs.size] _ _ ⟨W', ?_, ?_, ?_, ⟨⟨.none, hE⟩, hI, tup_at hls fun o e => hk _ o e⟩, ?_, ?_, ?_, ?_⟩ (F.keeps hk) (N.grown hk)
  · intro hm
    have : L = s.heap.objs.size + 1 ∨ L = s.heap.objs.size ∨ L = l := by simpa using hm
    rcases this with e | e | e
    · exact Nat.ne_of_lt (Nat.lt_succ_of_lt hLs) e
    · exact Nat.ne_of_lt hLs e
    · exact Nat.ne_of_gt (Nat.lt_of_lt_of_le hlb F.above) e
  · intro b hb
    have : b = s.heap.objs.size + 1 ∨ b = s.heap.objs.size := by simpa using hb
    rcases this with rfl | rfl
    · exact ktu_new F (Nat.le_add_right _ _)
    · exact ktu_new F (Nat.le_refl _)
  · intro p hp hm
    have hlp := Heap.lt_size (N p hp).1
    have : p.1 = s.heap.objs.size + 1 ∨ p.1 = s.heap.objs.size := by simpa using hm
    rcases this with e | e
    · exact Nat.ne_of_lt (Nat.lt_succ_of_lt hlp) e
    · exact Nat.ne_of_lt hlp e
  · rintro i g b ⟨⟨old, he⟩, ⟨oi, hoi, _⟩, _⟩ hb
    have : b = s.heap.objs.size + 1 ∨ b = s.heap.objs.size := by simpa using hb
    rcases this with rfl | rfl
    · exact ⟨_, he⟩
    · exact ⟨_, hoi⟩
  · rintro s' Q' E' ⟨⟨old, he⟩, _⟩ q
    exact wpAny_pyIter_enum he q
  · intro b hb
    have : b = s.heap.objs.size + 1 ∨ b = s.heap.objs.size ∨ b = l := by simpa using hb
    show b < h'.objs.size
    rw [hsz]
    rcases this with rfl | rfl | rfl
    · exact Nat.lt_succ_self _
    · exact Nat.lt_succ_of_lt (Nat.lt_succ_self _)
    · exact Nat.lt_succ_of_lt (Nat.lt_succ_of_lt hlt)
  · intro b hb
    have : b = s.heap.objs.size + 1 ∨ b = s.heap.objs.size ∨ b = l := by simpa using hb
    rcases this with rfl | rfl | rfl
    · exact .inl (by simp)
    · exact .inl (by simp)
    · exact .inr (.inl ⟨_, ho⟩)

/-- a source with one object of its own -/
theorem srcOne {target : Expr} {I l : Addr} {n : Nat} {P : Nat → Value → Prop} {St : Nat → Heap → Prop} {h' : Heap} {o : Obj} (hI : I = s.heap.objs.size) (hh' : h' = s.heap.push o) (W : Walks prog w A I [I, l] [I] n P St)
    (hgo : ∀ i v (s : Shared) (Q : Unit → Shared → Prop) (E : Value → Shared → Prop), St i s.heap → Q () s → wpAny (model prog w) A (letOwnedTupleGo target (.ref I) v) Q E s)
    (hlive : ∀ i h, St i h → ∃ o, h.get? I = some o) (F : Fr h₀ L s.heap m) (N : News h₀ L s.heap news) (hl : l < s.heap.objs.size) (hLl : L ≠ l) (st : St 0 h') (ex : List Addr) (hex : (∃ o, h₀.get? l = some o) ∨ l ∈ ex) :
    Src prog w A target h₀ L news I n (fun i v _ => P i v) h' [I, l] [I] (fun i v h => P i v ∧ St (i + 1) h) St ex := by
  subst hI hh'
  have hLs : L < s.heap.objs.size := F.ns.lt
  refine ⟨KTurns.ofWalks W hgo, ?_, ?_, ?_, st, ?_, fun s' Q' E' st' q => W.self 0 s' Q' E' st' q, ?_, ?_⟩
  · intro hm
    have : L = s.heap.objs.size ∨ L = l := by simpa using hm
    rcases this with e | e
    · exact Nat.ne_of_lt hLs e
    · exact hLl e
  · intro b hb
    rw [List.mem_singleton.mp hb]
    exact next_is_new F
  · intro p hp hm
    exact Nat.ne_of_lt (Heap.lt_size (N p hp).1) (List.mem_singleton.mp hm)
  · intro i g b st' hb
    rw [List.mem_singleton.mp hb]
    exact hlive i g st'
  · intro b hb
    rw [Heap.size_push]
    have : b = s.heap.objs.size ∨ b = l := by simpa using hb
    rcases this with rfl | rfl
    · exact Nat.lt_succ_self _
    · exact Nat.lt_succ_of_lt hl
  · intro b hb
    have : b = s.heap.objs.size ∨ b = l := by simpa using hb
    rcases this with rfl | rfl
    · exact .inl (by simp)
    · exact .inr hex

theorem srcTup {target : Expr} {l : Addr} {items : Array Value} {K : Value → Shared → Prop} (hh : A.handled = none) (F : Fr h₀ L s.heap m) (N : News h₀ L s.heap news) (hl : h₀.IsTuple l items)
    (h : ∀ I h' fp wr Md St, Src prog w A target h₀ L news I items.size (fun i v _ => items[i]? = some v) h' fp wr Md St [] → Fr h₀ L h' m → News h₀ L h' news → K (.ref I) { s with heap := h' }) :
    wpAny (model prog w) A (pyIter (.ref l)) K E s := by
  obtain ⟨o, ho, hc, nn, hd⟩ := id hl
  have hls : s.heap.IsTuple l items := ⟨o, F.keep _ _ ho, hc, nn, hd⟩
  have hlt : l < s.heap.objs.size := Heap.lt_size (F.keep _ _ ho)
  have hlb : l < h₀.objs.size := Heap.lt_size ho
  have up : ∀ b o, s.heap.get? b = some o → (s.heap.push { cls := .type "tuple_iterator", data := .fields #[.ref l, .int 0 0] }).get? b = some o := fun b o e => Heap.get?_push_of_some _ e
  refine wpAny_pyIter_tuple hls ?_
  refine h s.heap.objs.size _ _ _ _ _ (srcOne (s := s) rfl rfl (Walks.tuple hh s.heap.objs.size l (Nat.ne_of_lt hlt) items) (fun i v s Q E st q => letGo_tupleiter st.1 q) (fun i h st => by obtain ⟨o, e, _⟩ := st.1; exact ⟨o, e⟩) F N hlt (Nat.ne_of_gt (Nat.lt_of_lt_of_le hlb F.above))
    ⟨⟨_, Heap.get?_push_size _ rfl, rfl, rfl⟩, tup_at hls fun o e => up _ o e⟩ [] (.inl ⟨_, ho⟩)) (F.keeps up) (N.grown up)

theorem srcList {target : Expr} {l : Addr} {vs : List Value} {c : Nat} {K : Value → Shared → Prop} (hh : A.handled = none) (F : Fr h₀ L s.heap m) (N : News h₀ L s.heap news) (hm : (l, listOf vs.toArray c) ∈ news)
    (h : ∀ I h' fp wr Md St, Src prog w A target h₀ L news I vs.length (fun i v _ => vs[i]? = some v) h' fp wr Md St [l] → Fr h₀ L h' m → News h₀ L h' news → K (.ref I) { s with heap := h' }) :
    wpAny (model prog w) A (pyIter (.ref l)) K E s := by
  have hax := N _ hm
  have hls : s.heap.IsList l vs.toArray := ⟨_, hax.1, rfl, c, rfl⟩
  have hlt : l < s.heap.objs.size := Heap.lt_size hax.1
  have up : ∀ b o, s.heap.get? b = some o → (s.heap.push { cls := .type "list_iterator", data := .fields #[.ref l, .int 0 0] }).get? b = some o := fun b o e => Heap.get?_push_of_some _ e
  refine wpAny_pyIter_list hls ?_
  have W := Walks.list (prog := prog) (w := w) (A := A) hh s.heap.objs.size l (Nat.ne_of_lt hlt) vs.toArray
  have e1 : vs.toArray.size = vs.length := by simp
  rw [e1] at W
  have X := srcOne (target := target) (h₀ := h₀) (L := L) (news := news) (s := s) rfl rfl W (fun i v s Q E st q => letGo_listiter st.1 q) (fun i h st => by obtain ⟨o, e, _⟩ := st.1; exact ⟨o, e⟩) F N hlt (fun e => hax.2.1 e.symm)
    ⟨⟨_, Heap.get?_push_size _ rfl, rfl, rfl⟩, hls.at fun o e => up _ o e⟩ [l] (.inr (.head _))
  have e2 : (fun (i : Nat) (v : Value) (_ : Heap) => vs.toArray[i]? = some v) = fun i v _ => vs[i]? = some v := by funext i v _; simp
  rw [e2] at X
  exact h s.heap.objs.size _ _ _ _ _ X (F.keeps up) (N.grown up)

theorem srcRange {x : Str} {px : Pos} {r : Addr} {a b : Int} {t u v : Tok} {n : Nat} {K : Value → Shared → Prop} (hh : A.handled = none) (F : Fr h₀ L s.heap m) (N : News h₀ L s.heap news)
    (hr : IsRange s.heap r a b 1 t u v) (hsm : Builtin.Range.small a b 1 = true) (hn : Builtin.Range.rangeSize a b 1 = (n : Int))
    (h : ∀ I h' fp wr Md St, Src prog w A (.Name x px) h₀ L news I n (fun i v _ => ∃ t, v = .int (a + (i : Int)) t) h' fp wr Md St [] → Fr h₀ L h' m → News h₀ L h' news → K (.ref I) { s with heap := h' }) :
    wpAny (model prog w) A (pyIter (.ref r)) K E s := by
  refine wpAny_pyIter_range hr hsm ?_
  have up : ∀ (o : Obj) b x, s.heap.get? b = some x → (s.heap.push o).get? b = some x := fun o b x e => Heap.get?_push_of_some _ e
  have W := range_walks (prog := prog) (w := w) (I := s.heap.objs.size) hh a n
  refine h s.heap.objs.size _ [s.heap.objs.size] [s.heap.objs.size] _ _ ⟨KTurns.ofWalks W (fun i v s Q E st q => ?_), ?_, ?_, ?_, (by show IsRangeIter _ _ _ _ _; rw [hn]; simpa using Heap.get?_push_size _ rfl), ?_, fun s' Q' E' st' q => W.self 0 s' Q' E' st' q, ?_, fun b hb => .inl hb⟩ (F.keeps (up _)) (N.grown (up _))
  · exact wpAny_pure q
  · intro hm
    exact Nat.ne_of_lt F.ns.lt (List.mem_singleton.mp hm)
  · intro b hb
    rw [List.mem_singleton.mp hb]
    exact next_is_new F
  · intro p hp hm
    exact Nat.ne_of_lt (Heap.lt_size (N p hp).1) (List.mem_singleton.mp hm)
  · intro i g b st' hb
    rw [List.mem_singleton.mp hb]
    exact ⟨_, st'⟩
  · intro b hb
    rw [List.mem_singleton.mp hb]
    show s.heap.objs.size < (s.heap.push _).objs.size
    rw [Heap.size_push]; exact Nat.lt_succ_self _

theorem moreWr {target : Expr} {I : Addr} {fp wr wr' : List Addr} {n : Nat} {P Md : Nat → Value → Heap → Prop} {St : Nat → Heap → Prop} (W : KTurns prog w A target I fp wr n P Md St) (h1 : ∀ b ∈ wr', b ∈ fp) (h2 : ∀ b ∈ wr, b ∈ wr') : KTurns prog w A target I fp wr' n P Md St where
  sub := h1
  frame := W.frame
  item := fun i s Q E hi st hQ => W.item i s Q E hi st fun v h' tk a b => hQ v h' tk a fun c o hc e => b c o (fun x => hc (h2 c x)) e
  go := fun i v s Q E hm hQ => W.go i v s Q E hm fun h' a b c => hQ h' a b fun d o hd e => c d o (fun x => hd (h2 d x)) e
  done := fun s Q E st hQ => W.done s Q E st fun h' tk a => hQ h' tk fun c o hc e => a c o (fun x => hc (h2 c x)) e
theorem srcZipS {elts : List Expr} {k : Nat} {pos : Pos} {x y : Str} {t u : Tok} {K : Value → Shared → Prop} (hh : A.handled = none) (F : Fr h₀ L s.heap m) (N : News h₀ L s.heap news) (hxy : x.cps.size = y.cps.size)
    (h : ∀ I h' fp wr Md St, Src prog w A (.Tuple elts k pos) h₀ L news I x.cps.size (Pairs fun i a b => (∃ c u, x.cps[i]? = some c ∧ a = .str ⟨#[c]⟩ u) ∧ (∃ c u, y.cps[i]? = some c ∧ b = .str ⟨#[c]⟩ u)) h' fp wr Md St [] → Fr h₀ L h' m → News h₀ L h' news → K (.ref I) { s with heap := h' }) :
    wpAny (model prog w) A (call (.type "zip") [.str x t, .str y u]) (fun xv s₁ => wpAny (model prog w) A (pyIter xv) K E s₁) E s := by
  have hLs : L < s.heap.objs.size := F.ns.lt
  refine call_zipS fun h' hz hTI hTO h1 h2 hsz hk => ?_
  refine wpAny_pyIter_zip hz ?_
  have ne : ∀ a b : Nat, a < b → s.heap.objs.size + b ≠ s.heap.objs.size + a := fun a b h => by omega
  have D : ZA (s.heap.objs.size + 4) (s.heap.objs.size + 2) (s.heap.objs.size + 3) s.heap.objs.size (s.heap.objs.size + 1) := by
    constructor <;> (refine neN ?_; omega)
  have D1 := drawsS (prog := prog) (w := w) (A := A.in1) hh s.heap.objs.size x t
  have D2 := drawsS (prog := prog) (w := w) (A := A.in1) hh (s.heap.objs.size + 1) y u
  rw [← hxy] at D2
  have W := KTurns.ofWalksU (elts := elts) (k := k) (pos := pos) (zipD_walks D1 D2 D).toU
  have W' : KTurns prog w A (.Tuple elts k pos) _ _ _ _ (Pairs fun i a b => (∃ c u, x.cps[i]? = some c ∧ a = .str ⟨#[c]⟩ u) ∧ (∃ c u, y.cps[i]? = some c ∧ b = .str ⟨#[c]⟩ u)) _ _ :=
    moreWr { sub := W.sub, frame := W.frame, item := W.item, done := W.done, go := fun i v s Q E hm hQ => W.go i v s Q E hm fun h' hP => hQ h' (by
        obtain ⟨T, vals, rfl, ⟨p, q, hp, hq, rfl⟩, hT⟩ := hP
        exact ⟨T, _, _, rfl, ⟨hp, hq⟩, hT⟩) } (wr' := [s.heap.objs.size + 4, s.heap.objs.size + 2, s.heap.objs.size + 3, s.heap.objs.size, s.heap.objs.size + 1]) (fun b hb => hb) (by
        exact all_cons (.head _) (all_cons (.tail _ (.tail _ (.head _))) (all_cons (.tail _ (.tail _ (.tail _ (.head _)))) (all_cons (.tail _ (.tail _ (.tail _ (.tail _ (.head _))))) all_nil))))
  refine h (s.heap.objs.size + 4) h' [s.heap.objs.size + 4, s.heap.objs.size + 2, s.heap.objs.size + 3, s.heap.objs.size, s.heap.objs.size + 1] [s.heap.objs.size + 4, s.heap.objs.size + 2, s.heap.objs.size + 3, s.heap.objs.size, s.heap.objs.size + 1] _ _ ⟨W', ?_, ?_, ?_, ⟨hz, hTI, ⟨_, _, hTO⟩, h1, h2⟩, ?_, ?_, ?_, fun b hb => .inl hb⟩ (F.keeps hk) (N.grown hk)
  · exact fun hm => all_cons (P := fun b => L ≠ b) (ktu_ne 4 hLs) (all_cons (ktu_ne 2 hLs) (all_cons (ktu_ne 3 hLs) (all_cons (Nat.ne_of_lt hLs) (all_cons (ktu_ne 1 hLs) all_nil)))) L hm rfl
  · exact all_cons (ktu_new F (Nat.le_add_right _ _)) (all_cons (ktu_new F (Nat.le_add_right _ _)) (all_cons (ktu_new F (Nat.le_add_right _ _)) (all_cons (ktu_new F (Nat.le_refl _)) (all_cons (ktu_new F (Nat.le_add_right _ _)) all_nil))))
  · intro p hp hm
    have hlp := Heap.lt_size (N p hp).1
    exact all_cons (P := fun b => p.1 ≠ b) (ktu_ne 4 hlp) (all_cons (ktu_ne 2 hlp) (all_cons (ktu_ne 3 hlp) (all_cons (Nat.ne_of_lt hlp) (all_cons (ktu_ne 1 hlp) all_nil)))) p.1 hm rfl
  · rintro i g b ⟨hz, hTI, ⟨_, _, hTO⟩, h1, h2⟩ hb
    revert b; exact (all_cons (⟨_, hz⟩) (all_cons (⟨_, hTI⟩) (all_cons (⟨_, hTO⟩) (all_cons (D1.live _ _ h1) (all_cons (D2.live _ _ h2) all_nil)))))
  · rintro s' Q' E' ⟨hz, _⟩ q
    exact wpAny_pyIter_zip hz q
  · intro b hb
    show b < h'.objs.size
    rw [hsz]
    revert b; exact (all_cons (Nat.add_lt_add_left (by decide) _) (all_cons (Nat.add_lt_add_left (by decide) _) (all_cons (Nat.add_lt_add_left (by decide) _) (all_cons (Nat.lt_add_of_pos_right (by decide)) (all_cons (Nat.add_lt_add_left (by decide) _) all_nil)))))

section
variable {env : Env} {body orelse : List Stmt} {Q : Flow → Shared → Prop}
theorem forEnum {hp : Heap} {g : Array GenState} {d : Drawn} {tk : Nat} {o : OsState} {elts : List Expr} {k : Nat} {pos : Pos} {l : Addr} {items : Array Value} (hh : A.handled = none) (F : Fr h₀ L hp m) (N : News h₀ L hp news) (hl : h₀.IsTuple l items)
    (h : ∀ I h' fp wr Md St, Src prog w A (.Tuple elts k pos) h₀ L news I items.size (Pairs fun i a b => (∃ t, a = .int i t) ∧ items[i]? = some b) h' fp wr Md St [] → Fr h₀ L h' m → News h₀ L h' news → ForAt prog w A h₀ env (.Tuple elts k pos) body orelse Q E (.ref I) ⟨h', g, d, tk, o⟩) :
    wpAny (model prog w) A (call (.type "enumerate") [.ref l]) (fun xv s₁ => wpAny (model prog w) A (pyIter xv) (fun it s₂ => ForAt prog w A h₀ env (.Tuple elts k pos) body orelse Q E it s₂) E s₁) E ⟨hp, g, d, tk, o⟩ := srcEnum (s := ⟨hp, g, d, tk, o⟩) hh F N hl h
theorem forTup {hp : Heap} {g : Array GenState} {d : Drawn} {tk : Nat} {o : OsState} {target : Expr} {l : Addr} {items : Array Value} (hh : A.handled = none) (F : Fr h₀ L hp m) (N : News h₀ L hp news) (hl : h₀.IsTuple l items)
    (h : ∀ I h' fp wr Md St, Src prog w A target h₀ L news I items.size (fun i v _ => items[i]? = some v) h' fp wr Md St [] → Fr h₀ L h' m → News h₀ L h' news → ForAt prog w A h₀ env target body orelse Q E (.ref I) ⟨h', g, d, tk, o⟩) :
    wpAny (model prog w) A (pyIter (.ref l)) (fun it s₂ => ForAt prog w A h₀ env target body orelse Q E it s₂) E ⟨hp, g, d, tk, o⟩ := srcTup (s := ⟨hp, g, d, tk, o⟩) hh F N hl h
theorem forList {hp : Heap} {g : Array GenState} {d : Drawn} {tk : Nat} {o : OsState} {target : Expr} {l : Addr} {vs : List Value} {c : Nat} (hh : A.handled = none) (F : Fr h₀ L hp m) (N : News h₀ L hp news) (hm : (l, listOf vs.toArray c) ∈ news)
    (h : ∀ I h' fp wr Md St, Src prog w A target h₀ L news I vs.length (fun i v _ => vs[i]? = some v) h' fp wr Md St [l] → Fr h₀ L h' m → News h₀ L h' news → ForAt prog w A h₀ env target body orelse Q E (.ref I) ⟨h', g, d, tk, o⟩) :
    wpAny (model prog w) A (pyIter (.ref l)) (fun it s₂ => ForAt prog w A h₀ env target body orelse Q E it s₂) E ⟨hp, g, d, tk, o⟩ := srcList (s := ⟨hp, g, d, tk, o⟩) hh F N hm h
theorem forRange {hp : Heap} {g : Array GenState} {d : Drawn} {tk : Nat} {o : OsState} {x : Str} {px : Pos} {r : Addr} {a b : Int} {t u v : Tok} {n : Nat} (hh : A.handled = none) (F : Fr h₀ L hp m) (N : News h₀ L hp news)
    (hr : IsRange hp r a b 1 t u v) (hsm : Builtin.Range.small a b 1 = true) (hn : Builtin.Range.rangeSize a b 1 = (n : Int))
    (h : ∀ I h' fp wr Md St, Src prog w A (.Name x px) h₀ L news I n (fun i v _ => ∃ t, v = .int (a + (i : Int)) t) h' fp wr Md St [] → Fr h₀ L h' m → News h₀ L h' news → ForAt prog w A h₀ env (.Name x px) body orelse Q E (.ref I) ⟨h', g, d, tk, o⟩) :
    wpAny (model prog w) A (pyIter (.ref r)) (fun it s₂ => ForAt prog w A h₀ env (.Name x px) body orelse Q E it s₂) E ⟨hp, g, d, tk, o⟩ := srcRange (s := ⟨hp, g, d, tk, o⟩) hh F N hr hsm hn h
variable {ifs : List Expr} {elt : Expr} {scope : Scope} {cl : List (Str × Addr)} {Fin : Addr → List Value → List (Addr × Obj) → Shared → Prop}
theorem lcList {hp : Heap} {g : Array GenState} {d : Drawn} {tk : Nat} {o : OsState} {target : Expr} {l : Addr} {vs : List Value} {c : Nat} (hh : A.handled = none) (F : Fr h₀ L hp m) (N : News h₀ L hp news) (hm : (l, listOf vs.toArray c) ∈ news)
    (h : ∀ I h' fp wr Md St, Src prog w A target h₀ L news I vs.length (fun i v _ => vs[i]? = some v) h' fp wr Md St [l] → Fr h₀ L h' m → News h₀ L h' news → LcAt prog w A target ifs elt scope cl env h₀ L m Fin (.ref I) ⟨h', g, d, tk, o⟩) :
    wpAny (model prog w) A (pyIter (.ref l)) (LcAt prog w A target ifs elt scope cl env h₀ L m Fin) E ⟨hp, g, d, tk, o⟩ := srcList (s := ⟨hp, g, d, tk, o⟩) hh F N hm h
theorem lcRange {hp : Heap} {g : Array GenState} {d : Drawn} {tk : Nat} {o : OsState} {x : Str} {px : Pos} {r : Addr} {a b : Int} {t u v : Tok} {n : Nat} (hh : A.handled = none) (F : Fr h₀ L hp m) (N : News h₀ L hp news)
    (hr : IsRange hp r a b 1 t u v) (hsm : Builtin.Range.small a b 1 = true) (hn : Builtin.Range.rangeSize a b 1 = (n : Int))
    (h : ∀ I h' fp wr Md St, Src prog w A (.Name x px) h₀ L news I n (fun i v _ => ∃ t, v = .int (a + (i : Int)) t) h' fp wr Md St [] → Fr h₀ L h' m → News h₀ L h' news → LcAt prog w A (.Name x px) ifs elt scope cl env h₀ L m Fin (.ref I) ⟨h', g, d, tk, o⟩) :
    wpAny (model prog w) A (pyIter (.ref r)) (LcAt prog w A (.Name x px) ifs elt scope cl env h₀ L m Fin) E ⟨hp, g, d, tk, o⟩ := srcRange (s := ⟨hp, g, d, tk, o⟩) hh F N hr hsm hn h
theorem lcZipS {hp : Heap} {g : Array GenState} {d : Drawn} {tk : Nat} {o : OsState} {elts : List Expr} {k : Nat} {pos : Pos} {x y : Str} {t u : Tok} (hh : A.handled = none) (F : Fr h₀ L hp m) (N : News h₀ L hp news) (hxy : x.cps.size = y.cps.size)
    (h : ∀ I h' fp wr Md St, Src prog w A (.Tuple elts k pos) h₀ L news I x.cps.size (Pairs fun i a b => (∃ c u, x.cps[i]? = some c ∧ a = .str ⟨#[c]⟩ u) ∧ (∃ c u, y.cps[i]? = some c ∧ b = .str ⟨#[c]⟩ u)) h' fp wr Md St [] → Fr h₀ L h' m → News h₀ L h' news → LcAt prog w A (.Tuple elts k pos) ifs elt scope cl env h₀ L m Fin (.ref I) ⟨h', g, d, tk, o⟩) :
    wpAny (model prog w) A (call (.type "zip") [.str x t, .str y u]) (fun xv s₁ => wpAny (model prog w) A (pyIter xv) (LcAt prog w A (.Tuple elts k pos) ifs elt scope cl env h₀ L m Fin) E s₁) E ⟨hp, g, d, tk, o⟩ := srcZipS (s := ⟨hp, g, d, tk, o⟩) hh F N hxy h
end
/-- the names of a comprehension set -/
theorem asg_name0 {x : Str} {px : Pos} {scope : Scope} {cl : List (Str × Addr)} {env : Env} {C : Addr} {oC : Obj} {m₂ : Str → Option Value} {v : Value} {rest : List (Addr × Obj)} {Q : Unit → Shared → Prop} (F : Fr h₀ L s.heap m) (N : News h₀ L s.heap ((C, oC) :: rest)) (hC : NsObj oC m₂) (off : ∀ p ∈ rest, p.1 ≠ C)
    (hkind : scope.kind = .function) (hx : scope.names.lookup x = some .local)
    (h : ∀ h' tk oC' m₃, Fr h₀ L h' m → NsObj oC' m₃ → m₃ x = some v → News h₀ L h' ((C, oC') :: rest) → Q () { s with heap := h', toks := tk }) :
    wpAny (model prog w) A (assign (.Name x px) (compEnvC scope cl C env) v) Q E s := by
  have z := N _ (.head _)
  refine wpAny_assign_Name (wpAny_storeName_local (lookup_relabel_local hx) (hC.ns z.1) (fun h' hn' hs' => ?_) (by simp [compEnvC, relabel, hkind]))
  obtain ⟨oC', e', hC'⟩ := ns_obj hn'
  refine h h' _ oC' _ (F.change hs' z.2.1 z.2.2) hC' (by simp) fun p hp => ?_
  revert p; exact (all_cons (⟨e', z.2⟩) (fun p hp => (⟨hs'.extBut _ _ (off p hp) (N p (.tail _ hp)).1, (N p (.tail _ hp)).2⟩)))
theorem asg_name {hp : Heap} {g : Array GenState} {d : Drawn} {tk₀ : Nat} {o : OsState} {x : Str} {px : Pos} {scope : Scope} {cl : List (Str × Addr)} {env : Env} {C : Addr} {oC : Obj} {m₂ : Str → Option Value} {v : Value} {rest : List (Addr × Obj)} {Q : Unit → Shared → Prop} (F : Fr h₀ L hp m) (N : News h₀ L hp ((C, oC) :: rest)) (hC : NsObj oC m₂) (off : ∀ p ∈ rest, p.1 ≠ C)
    (hkind : scope.kind = .function) (hx : scope.names.lookup x = some .local)
    (h : ∀ h' tk oC' m₃, Fr h₀ L h' m → NsObj oC' m₃ → m₃ x = some v → News h₀ L h' ((C, oC') :: rest) → Q () ⟨h', g, d, tk, o⟩) :
    wpAny (model prog w) A (assign (.Name x px) (compEnvC scope cl C env) v) Q E ⟨hp, g, d, tk₀, o⟩ := asg_name0 (s := ⟨hp, g, d, tk₀, o⟩) F N hC off hkind hx h
theorem asg_pair0 {x y : Str} {px py tp : Pos} {kk : Nat} {scope : Scope} {cl : List (Str × Addr)} {env : Env} {C T : Addr} {oC : Obj} {m₂ : Str → Option Value} {u v : Value} {rest : List (Addr × Obj)} {Q : Unit → Shared → Prop} (hh : A.handled = none) (F : Fr h₀ L s.heap m) (N : News h₀ L s.heap ((C, oC) :: rest)) (hC : NsObj oC m₂) (off : ∀ p ∈ rest, p.1 ≠ C)
    (hT : s.heap.IsTuple T #[u, v]) (hkind : scope.kind = .function) (hx : scope.names.lookup x = some .local) (hy : scope.names.lookup y = some .local) (hxy : x ≠ y)
    (h : ∀ h' tk oC' m₃, Fr h₀ L h' m → NsObj oC' m₃ → m₃ x = some u → m₃ y = some v → News h₀ L h' ((C, oC') :: rest) → Q () { s with heap := h', toks := tk }) :
    wpAny (model prog w) A (assign (.Tuple [.Name x px, .Name y py] kk tp) (compEnvC scope cl C env) (.ref T)) Q E s := by
  have z := N _ (.head _)
  refine kcp_assign hh hT (lookup_relabel_local hx) (lookup_relabel_local hy) (by simp [compEnvC, relabel, hkind]) (hC.ns z.1) fun h' tk hn' hs' => ?_
  obtain ⟨oC', e', hC'⟩ := ns_obj hn'
  have up : ∀ c o, c ≠ C → s.heap.get? c = some o → h'.get? c = some o := hs'
  have F' : Fr h₀ L h' m := ⟨F.ns.at' fun o e => up _ o z.2.1.symm e, fun c o e => up c o (fun q => by rw [q, z.2.2] at e; cases e) (F.keep c o e), F.above⟩
  refine h h' tk oC' _ F' hC' (by simp [hxy]) (by simp) fun p hp => ?_
  revert p; exact (all_cons (⟨e', z.2⟩) (fun p hp => (⟨up _ _ (off p hp) (N p (.tail _ hp)).1, (N p (.tail _ hp)).2⟩)))
theorem asg_pair {hp : Heap} {g : Array GenState} {d : Drawn} {tk₀ : Nat} {o : OsState} {x y : Str} {px py tp : Pos} {kk : Nat} {scope : Scope} {cl : List (Str × Addr)} {env : Env} {C T : Addr} {oC : Obj} {m₂ : Str → Option Value} {u v : Value} {rest : List (Addr × Obj)} {Q : Unit → Shared → Prop} (hh : A.handled = none) (F : Fr h₀ L hp m) (N : News h₀ L hp ((C, oC) :: rest)) (hC : NsObj oC m₂) (off : ∀ p ∈ rest, p.1 ≠ C)
    (hT : hp.IsTuple T #[u, v]) (hkind : scope.kind = .function) (hx : scope.names.lookup x = some .local) (hy : scope.names.lookup y = some .local) (hxy : x ≠ y)
    (h : ∀ h' tk oC' m₃, Fr h₀ L h' m → NsObj oC' m₃ → m₃ x = some u → m₃ y = some v → News h₀ L h' ((C, oC') :: rest) → Q () ⟨h', g, d, tk, o⟩) :
    wpAny (model prog w) A (assign (.Tuple [.Name x px, .Name y py] kk tp) (compEnvC scope cl C env) (.ref T)) Q E ⟨hp, g, d, tk₀, o⟩ := asg_pair0 (s := ⟨hp, g, d, tk₀, o⟩) hh F N hC off hT hkind hx hy hxy h
theorem appendL0 {D : Addr} {vs : List Value} {c : Nat} {x : Value} {rest : List (Addr × Obj)} {Q : Value → Shared → Prop} (F : Fr h₀ L s.heap m) (N : News h₀ L s.heap ((D, listOf vs.toArray c) :: rest)) (hD : ∀ p ∈ rest, p.1 ≠ D) (hl : vs.length ≤ 1000)
    (h : ∀ h', Fr h₀ L h' m → News h₀ L h' ((D, listOf (vs ++ [x]).toArray (c + 1)) :: rest) → Q .none { s with heap := h' }) :
    wpAny (model prog w) A (call (.builtin "list.append") [.ref D, x]) Q E s := by
  refine append_head F N hD (fun h' F' N' => h h' F' ?_) (by rw [List.size_toArray, sizeLine_eq]; omega)
  rw [← List.push_toArray]; exact N'
theorem appendL {hp : Heap} {g : Array GenState} {d : Drawn} {tk₀ : Nat} {o : OsState} {D : Addr} {vs : List Value} {c : Nat} {x : Value} {rest : List (Addr × Obj)} {Q : Value → Shared → Prop} (F : Fr h₀ L hp m) (N : News h₀ L hp ((D, listOf vs.toArray c) :: rest)) (hD : ∀ p ∈ rest, p.1 ≠ D) (hl : vs.length ≤ 1000)
    (h : ∀ h', Fr h₀ L h' m → News h₀ L h' ((D, listOf (vs ++ [x]).toArray (c + 1)) :: rest) → Q .none ⟨h', g, d, tk₀, o⟩) :
    wpAny (model prog w) A (call (.builtin "list.append") [.ref D, x]) Q E ⟨hp, g, d, tk₀, o⟩ := appendL0 (s := ⟨hp, g, d, tk₀, o⟩) F N hD hl h
theorem TurnPost.next {own : List (Addr × Obj)} {wr : List Addr} {J : (Str → Option Value) → List (Addr × Obj) → Prop} {Q : Flow → Shared → Prop} {m' : Str → Option Value} {h' : Heap} {tk : Nat} {l : List (Addr × Obj)} (news' : List (Addr × Obj)) (F : Fr h₀ L h' m') (N : News h₀ L h' l) (sub : ∀ p ∈ news' ++ own, p ∈ l) (off : ∀ p ∈ news', p.1 ∉ wr) (j : J m' news') :
    TurnPost h₀ L own wr J s Q .next { s with heap := h', toks := tk } := ⟨h', tk, m', news', rfl, F, fun p hp => N p (sub p hp), off, j⟩
theorem LcEnd.mk {C D : Addr} {ys : List Value} {own : List (Addr × Obj)} {wr : List Addr} {K : List (Addr × Obj) → Prop} {h' : Heap} {tk : Nat} {l : List (Addr × Obj)} {oC : Obj} {m₂ : Str → Option Value} (news' : List (Addr × Obj)) (F : Fr h₀ L h' m) (N : News h₀ L h' l) (hC : NsObj oC m₂) (sub : ∀ p ∈ (C, oC) :: (D, lst ys) :: (news' ++ own), p ∈ l) (off : ∀ p ∈ news', p.1 ∉ wr ∧ p.1 ≠ C ∧ p.1 ≠ D) (k : K news') :
    LcEnd h₀ L m C D ys own wr K s { s with heap := h', toks := tk } := ⟨h', tk, oC, m₂, news', rfl, F, hC, fun p hp => N p (sub p hp), off, k⟩
theorem offC {C D : Addr} {o : Obj} {a b : List (Addr × Obj)} {wr : List Addr} (h1 : ∀ p ∈ a, p.1 ∉ wr ∧ p.1 ≠ C ∧ p.1 ≠ D) (h2 : ∀ p ∈ b, p.1 ≠ C ∧ p.1 ≠ D) (hCD : C ≠ D) : ∀ p ∈ (D, o) :: (a ++ b), p.1 ≠ C := by
  intro p hp
  revert p; exact (all_cons (hCD.symm) (fun p hp => ((List.mem_append.mp hp).elim (fun h => (h1 p h).2.1) fun h => (h2 p h).1)))
theorem drawL {it t : Addr} {items : Array Value} (hne : t ≠ it) : ∀ (n i : Nat) (s : Shared) (Q : List Value → Shared → Prop), s.heap.IsListIter it t i → s.heap.IsList t items → i + n ≤ items.size →
    (∀ h', h'.IsListIter it t (i + n) → Heap.SameBut it s.heap h' → Q ((items.toList.drop i).take n) { s with heap := h' }) → wpAny (model prog w) A (draw (.ref it) n) Q E s
  | 0, i, s, Q, hit, _, _, hQ => by
    show wpAny _ _ (pure []) Q E s
    exact wpAny_pure (by simpa using hQ s.heap hit (Heap.SameBut.refl ..))
  | n + 1, i, s, Q, hit, ht, hle, hQ => by
    have hlt : i < items.size := by omega
    show wpAny _ _ (pyNext (.ref it) >>= _) Q E s
    refine wpAny_bind (wpAny_pyNext_list_item hit ht (x := items[i]) (by simp [hlt]) fun h₁ hit₁ hs₁ => ?_)
    refine wpAny_bind (wpAny_holding (drawL hne n (i + 1) _ _ hit₁ (ht.extBut hs₁.extBut hne) (by omega) fun h₂ hit₂ hs₂ => wpAny_pure ?_))
    have hd : items.toList.drop i = items[i] :: items.toList.drop (i + 1) := by simp [List.drop_eq_getElem_cons, hlt]
    have := hQ h₂ (by rw [show i + (n + 1) = i + 1 + n by omega]; exact hit₂) (hs₁.trans hs₂)
    rw [hd, List.take_succ_cons] at this
    exact this
theorem unpackL {t : Addr} {items : Array Value} {Q : List Value → Shared → Prop} (hh : A.handled = none) (ht : s.heap.IsList t items)
    (hQ : ∀ h', Heap.ExtBut s.heap.objs.size s.heap h' → Q items.toList { s with heap := h' }) : wpAny (model prog w) A (unpackItems (.ref t) items.size none) Q E s := by
  have hlt : t ≠ s.heap.objs.size := by obtain ⟨o, ho, _⟩ := ht; exact Nat.ne_of_lt (Heap.lt_size ho)
  unfold unpackItems
  refine wpAny_bind ?_
  · unfold notIterableAtAll
    refine wpAny_bind (wpAny_specialOf ht.typeIs slot_list_iter.lookup ?_)
    refine wpAny_pure ?_
    simp only [Bool.false_eq_true, if_false]
    refine wpAny_bind (wpAny_holding (wpAny_pyIter_list ht ?_))
    refine wpAny_bind (wpAny_holding (drawL hlt items.size 0 _ _ ⟨_, Heap.get?_push_size _ rfl, rfl, rfl⟩ (ht.push _) (by omega) fun h₁ hit₁ hs₁ => ?_))
    have hall : List.take items.size (List.drop 0 items.toList) = items.toList := by
      rw [List.drop_zero]; exact List.take_of_length_le (by simp)
    rw [hall]
    rw [if_neg (by simp)]
    have ht₁ : h₁.IsList t items := (ht.push _).extBut hs₁.extBut hlt
    refine wpAny_bind (wpAny_holding (wpAny_pyNext_list_end hh hit₁ ht₁ (by simp) fun h₂ he₂ => ?_))
    simp only [Option.isSome_none, Bool.false_eq_true, if_false]
    refine wpAny_pure (hQ h₂ fun b o hb e => he₂ b o hb (hs₁.extBut b o hb (Heap.get?_push_of_some _ e)))
theorem asg_pairL0 {x y : Str} {px py tp : Pos} {kk : Nat} {scope : Scope} {cl : List (Str × Addr)} {env : Env} {C T : Addr} {oC : Obj} {m₂ : Str → Option Value} {u v : Value} {rest : List (Addr × Obj)} {Q : Unit → Shared → Prop} (hh : A.handled = none) (F : Fr h₀ L s.heap m) (N : News h₀ L s.heap ((C, oC) :: rest)) (hC : NsObj oC m₂) (off : ∀ p ∈ rest, p.1 ≠ C)
    (hT : s.heap.IsList T #[u, v]) (hkind : scope.kind = .function) (hx : scope.names.lookup x = some .local) (hy : scope.names.lookup y = some .local) (hxy : x ≠ y)
    (h : ∀ h' tk oC' m₃, Fr h₀ L h' m → NsObj oC' m₃ → m₃ x = some u → m₃ y = some v → News h₀ L h' ((C, oC') :: rest) → Q () { s with heap := h', toks := tk }) :
    wpAny (model prog w) A (assign (.Tuple [.Name x px, .Name y py] kk tp) (compEnvC scope cl C env) (.ref T)) Q E s := by
  have z := N _ (.head _)
  have hn := hC.ns z.1
  rw [arm_assign_Tuple]
  refine wpAny_bind (wpAny_standAt ?_)
  unfold unpack
  refine wpAny_bind (wpAny_holding (unpackL (items := #[u, v]) hh hT fun h₁ he₁ => ?_))
  have hCs : C ≠ s.heap.objs.size := Nat.ne_of_lt hn.lt
  have up₁ : ∀ c o, s.heap.get? c = some o → h₁.get? c = some o := fun c o e => he₁ c o (Nat.ne_of_lt (Heap.lt_size e)) e
  have hn₁ : h₁.Ns C m₂ := hn.at' fun o e => up₁ _ o e
  show wpAny _ _ (assignInOrder [assign (.Name x px) (compEnvC scope cl C env), assign (.Name y py) (compEnvC scope cl C env)] [u, v]) _ _ _
  refine assignInOrder_cons (wpAny_assign_Name (wpAny_storeName_local (lookup_relabel_local hx) hn₁ (fun h₂ hn₂ hs₂ => ?_) (by simp [compEnvC, relabel, hkind])))
  refine assignInOrder_cons (wpAny_assign_Name (wpAny_storeName_local (lookup_relabel_local hy) hn₂ (fun h' hn' hs₃ => ?_) (by simp [compEnvC, relabel, hkind])))
  refine assignInOrder_nil ?_
  obtain ⟨oC', e', hC'⟩ := ns_obj hn'
  have up : ∀ c o, c ≠ C → s.heap.get? c = some o → h'.get? c = some o := fun c o hc e => hs₃.extBut c o hc (hs₂.extBut c o hc (up₁ c o e))
  have F' : Fr h₀ L h' m := ⟨F.ns.at' fun o e => up _ o z.2.1.symm e, fun c o e => up c o (fun q => by rw [q, z.2.2] at e; cases e) (F.keep c o e), F.above⟩
  refine h h' _ oC' _ F' hC' (by simp [hxy]) (by simp) fun p hp => ?_
  revert p; exact (all_cons (⟨e', z.2⟩) (fun p hp => (⟨up _ _ (off p hp) (N p (.tail _ hp)).1, (N p (.tail _ hp)).2⟩)))
theorem asg_pairL {hp : Heap} {g : Array GenState} {d : Drawn} {tk₀ : Nat} {o : OsState} {x y : Str} {px py tp : Pos} {kk : Nat} {scope : Scope} {cl : List (Str × Addr)} {env : Env} {C T : Addr} {oC : Obj} {m₂ : Str → Option Value} {u v : Value} {rest : List (Addr × Obj)} {Q : Unit → Shared → Prop} (hh : A.handled = none) (F : Fr h₀ L hp m) (N : News h₀ L hp ((C, oC) :: rest)) (hC : NsObj oC m₂) (off : ∀ p ∈ rest, p.1 ≠ C)
    (hT : hp.IsList T #[u, v]) (hkind : scope.kind = .function) (hx : scope.names.lookup x = some .local) (hy : scope.names.lookup y = some .local) (hxy : x ≠ y)
    (h : ∀ h' tk oC' m₃, Fr h₀ L h' m → NsObj oC' m₃ → m₃ x = some u → m₃ y = some v → News h₀ L h' ((C, oC') :: rest) → Q () ⟨h', g, d, tk, o⟩) :
    wpAny (model prog w) A (assign (.Tuple [.Name x px, .Name y py] kk tp) (compEnvC scope cl C env) (.ref T)) Q E ⟨hp, g, d, tk₀, o⟩ := asg_pairL0 (s := ⟨hp, g, d, tk₀, o⟩) hh F N hC off hT hkind hx hy hxy h
end
end Mine
end

section
namespace Mine
open PySem PySem.W PyProof.Rows PySem.Spec PySem.Calls
/-- the tables: bits and signs -/
noncomputable def tabs : List (List (Nat × Nat)) := [[(40960, 108), (49152, 115), (32768, 45), (24576, 98), (16384, 100), (8192, 99), (4096, 112)], [(256, 114)], [(128, 119)], [(2112, 115), (2048, 83), (64, 120)], [(32, 114)], [(16, 119)], [(1032, 115), (1024, 83), (8, 120)], [(4, 114)], [(2, 119)], [(513, 116), (512, 84), (1, 120)]]
noncomputable def hitB (i : Nat) (x : Int) (b : Nat) : Bool := if i = 0 then decide (Builtin.bitAnd x 61440 = (b : Int)) else decide (Builtin.bitAnd x b = (b : Int))
noncomputable def scan (i : Nat) (x : Int) : List (Nat × Nat) → Nat
  | [] => if i = 0 then 63 else 45
  | (b, c) :: r => if hitB i x b = true then c else scan i x r
noncomputable def fmSign (x : Int) (i : Nat) : Nat := scan i x (tabs.getD i [])
noncomputable def fmChars (x : Int) : List Nat := (List.range 10).map (fmSign x)
theorem scan_hit {i : Nat} {x : Int} : ∀ {tab : List (Nat × Nat)} {j b c : Nat}, tab[j]? = some (b, c) → (∀ (j' : Nat) (q : Nat × Nat), j' < j → tab[j']? = some q → hitB i x q.1 = false) → hitB i x b = true → scan i x tab = c
  | [], j, b, c, h, _, _ => by simp at h
  | (b', c') :: r, 0, b, c, h, _, hh => by
    have e : (b', c') = (b, c) := by simpa using h
    cases e
    simp only [scan, hh, if_true]
  | (b', c') :: r, j + 1, b, c, h, hm, hh => by
    have h0 : hitB i x b' = false := hm 0 (b', c') (Nat.succ_pos _) rfl
    simp only [scan, h0, Bool.false_eq_true, if_false]
    exact scan_hit (j := j) (by simpa using h) (fun j' q hj hq => hm (j' + 1) q (Nat.succ_lt_succ hj) (by simpa using hq)) hh
theorem scan_no {i : Nat} {x : Int} : ∀ {tab : List (Nat × Nat)}, (∀ (j' : Nat) (q : Nat × Nat), tab[j']? = some q → hitB i x q.1 = false) → scan i x tab = if i = 0 then 63 else 45
  | [], _ => rfl
  | (b', c') :: r, hm => by
    have h0 : hitB i x b' = false := hm 0 (b', c') rfl
    simp only [scan, h0, Bool.false_eq_true, if_false]
    exact scan_no fun j' q hq => hm (j' + 1) q (by simpa using hq)
noncomputable def Ents (K : Frag) (es : List Value) (tab : List (Nat × Nat)) : Prop := ∀ (j : Nat) (e : Value), es[j]? = some e → ∃ (T2 : Addr) (b c : Nat) (tb tc : Tok), e = .ref T2 ∧ tab[j]? = some (b, c) ∧ K.lookup T2 = some { cls := .type "tuple", data := .seq #[.int b tb, .str (S [c]) tc] 0 }
/-- a table as the written part holds it -/
noncomputable def TabOk (K : Frag) (T : Addr) (tab : List (Nat × Nat)) : Prop :=
  ∃ es : List Value, K.lookup T = some { cls := .type "tuple", data := .seq es.toArray 0 } ∧ es.length = tab.length ∧
    Ents K es tab
theorem Ents.nil {K : Frag} : Ents K [] [] := by intro j e h; simp at h
theorem Ents.cons {K : Frag} {es : List Value} {tab : List (Nat × Nat)} {T2 : Addr} {b c : Nat} (tb tc : Tok) (h1 : K.lookup T2 = some { cls := .type "tuple", data := .seq #[.int b tb, .str (S [c]) tc] 0 }) (h2 : Ents K es tab) : Ents K (.ref T2 :: es) ((b, c) :: tab) := by
  intro j e h
  match j, h with
  | 0, h => exact ⟨T2, b, c, tb, tc, by simpa using h.symm, rfl, h1⟩
  | j + 1, h => exact h2 j e (by simpa using h)
set_option maxRecDepth 100000 in
theorem tabs_ok (p : Params) (i : Nat) (hi : i < 10) : ∃ T : Addr, (#[.ref 50, .ref 52, .ref 54, .ref 58, .ref 60, .ref 62, .ref 66, .ref 68, .ref 70, .ref 74] : Array Value)[i]? = some (.ref T) ∧ TabOk (hd.heap_39 p) T (tabs.getD i []) := by
  match i, hi with
  | 0, _ => exact ⟨50, rfl, _, rfl, rfl, .cons _ _ rfl (.cons _ _ rfl (.cons _ _ rfl (.cons _ _ rfl (.cons _ _ rfl (.cons _ _ rfl (.cons _ _ rfl .nil))))))⟩
  | 1, _ => exact ⟨52, rfl, _, rfl, rfl, .cons _ _ rfl .nil⟩
  | 2, _ => exact ⟨54, rfl, _, rfl, rfl, .cons _ _ rfl .nil⟩
  | 3, _ => exact ⟨58, rfl, _, rfl, rfl, .cons _ _ rfl (.cons _ _ rfl (.cons _ _ rfl .nil))⟩
  | 4, _ => exact ⟨60, rfl, _, rfl, rfl, .cons _ _ rfl .nil⟩
  | 5, _ => exact ⟨62, rfl, _, rfl, rfl, .cons _ _ rfl .nil⟩
  | 6, _ => exact ⟨66, rfl, _, rfl, rfl, .cons _ _ rfl (.cons _ _ rfl (.cons _ _ rfl .nil))⟩
  | 7, _ => exact ⟨68, rfl, _, rfl, rfl, .cons _ _ rfl .nil⟩
  | 8, _ => exact ⟨70, rfl, _, rfl, rfl, .cons _ _ rfl .nil⟩
  | 9, _ => exact ⟨74, rfl, _, rfl, rfl, .cons _ _ rfl (.cons _ _ rfl (.cons _ _ rfl .nil))⟩
  | n + 10, h => exact absurd h (by omega)
theorem tab75 (p : Params) : (hd.heap_39 p).lookup 75 = some { cls := .type "tuple", data := .seq #[.ref 50, .ref 52, .ref 54, .ref 58, .ref 60, .ref 62, .ref 66, .ref 68, .ref 70, .ref 74] 0 } := rfl
theorem S_append (a b : List Nat) : S a ++ S b = S (a ++ b) := by
  show Str.mk _ = _
  simp [S]
/-- the bit j of M -/
noncomputable def bitOf (M j : Nat) : Nat := M / 2 ^ j % 2
theorem bitOf_01 (M j : Nat) : bitOf M j = 0 ∨ bitOf M j = 1 := by unfold bitOf; omega
noncomputable def kindCh (q : Nat) : Nat := [63, 112, 99, 63, 100, 63, 98, 63, 45, 63, 108, 63, 115, 63, 63, 63].getD q 0
noncomputable def sgSign (M k : Nat) : Nat :=
  if k % 3 = 2 ∧ bitOf M (11 - k / 3) = 1 then [[83, 115], [83, 115], [84, 116]].getD (k / 3) [] |>.getD (bitOf M (8 - k)) 0
  else [45, 114, 119, 120].getD ((k % 3 + 1) * bitOf M (8 - k)) 0
noncomputable def sgPre (M i : Nat) : List Nat := kindCh (M / 4096) :: (List.range i).map (sgSign M)
noncomputable def sgChars (M : Nat) : List Nat := sgPre M 9
theorem sgPre_length (M i : Nat) : (sgPre M i).length = i + 1 := by simp [sgPre]
theorem sgPre_succ (M i : Nat) : sgPre M (i + 1) = sgPre M i ++ [sgSign M i] := by simp [sgPre, List.range_succ]
section
variable {prog : Program} {w : World} {A : Around} {E : Value → Shared → Prop} {s : Shared} {t u : Tok} {Q : Value → Shared → Prop}
theorem log2_pow (n : Nat) (h : n ≤ 1000) : (((2 ^ n : Nat) : Int)).natAbs.log2 < 9000 := by
  rw [Int.natAbs_natCast, Nat.log2_two_pow]; omega
theorem pow_two {n : Int} (hn : 0 ≤ n ∧ n ≤ 1000) (h : ∀ t', Q (.int ((2 ^ n.toNat : Nat) : Int) t') { s with toks := s.toks + 1 }) : wpAny (model prog w) A (binaryOp .Pow (.int 2 t) (.int n u)) Q E s := by
  refine pow_int hn.1 ?_ ?_
  · have e : (Builtin.Int.intBits 2 : Int) = 2 := by decide +kernel
    rw [e]; omega
  · have e : (2 : Int) ^ n.toNat = ((2 ^ n.toNat : Nat) : Int) := by push_cast; rfl
    rw [e]; exact h _
theorem fdiv_pow {x n : Nat} (hn : n ≤ 1000) (h : ∀ t', Q (.int ((x / 2 ^ n : Nat) : Int) t') { s with toks := s.toks + 1 }) : wpAny (model prog w) A (binaryOp .FloorDiv (.int (x : Int) t) (.int ((2 ^ n : Nat) : Int) u)) Q E s := by
  refine floordiv_int (Int.ofNat_ne_zero.mpr (Nat.pos_iff_ne_zero.mp (Nat.two_pow_pos n))) ?_ (Or.inl (PyProof.noPylong_of_log2 (log2_pow n hn)))
  rw [Int.fdiv_eq_ediv_of_nonneg _ (Int.natCast_nonneg _)]
  exact h _
theorem fdiv_nat {x d : Nat} (hd : 0 < d ∧ d < 2 ^ 100) (h : ∀ t', Q (.int ((x / d : Nat) : Int) t') { s with toks := s.toks + 1 }) : wpAny (model prog w) A (binaryOp .FloorDiv (.int (x : Int) t) (.int (d : Int) u)) Q E s := by
  refine floordiv_int (by omega) ?_ (Or.inl (PyProof.noPylong_of_log2 ?_))
  · rw [Int.fdiv_eq_ediv_of_nonneg _ (by omega)]
    exact h _
  · rw [Int.natAbs_natCast]
    have := (Nat.log2_lt (by omega)).mpr hd.2
    omega
theorem fmod_nat {x d : Nat} (hd : 0 < d) (h : ∀ t', Q (.int ((x % d : Nat) : Int) t') { s with toks := s.toks + 1 }) : wpAny (model prog w) A (binaryOp .Mod (.int (x : Int) t) (.int (d : Int) u)) Q E s := by
  refine mod_int' (by omega) ?_
  rw [Int.fmod_eq_emod_of_nonneg _ (by omega)]
  exact h _
theorem fdiv_3 {x : Nat} (h : ∀ t', Q (.int ((x / 3 : Nat) : Int) t') { s with toks := s.toks + 1 }) : wpAny (model prog w) A (binaryOp .FloorDiv (.int (x : Int) t) (.int 3 u)) Q E s := fdiv_nat (d := 3) (by decide) h
theorem fmod_2 {x : Nat} (h : ∀ t', Q (.int ((x % 2 : Nat) : Int) t') { s with toks := s.toks + 1 }) : wpAny (model prog w) A (binaryOp .Mod (.int (x : Int) t) (.int 2 u)) Q E s := fmod_nat (d := 2) (by decide) h
theorem fmod_3 {x : Nat} (h : ∀ t', Q (.int ((x % 3 : Nat) : Int) t') { s with toks := s.toks + 1 }) : wpAny (model prog w) A (binaryOp .Mod (.int (x : Int) t) (.int 3 u)) Q E s := fmod_nat (d := 3) (by decide) h
theorem add_S {a b : List Nat} (hl : a.length + b.length ≤ 1000) (h : ∀ t' tk, Q (.str (S (a ++ b)) t') { s with toks := tk }) : wpAny (model prog w) A (binaryOp .Add (.str (S a) t) (.str (S b) u)) Q E s := by
  refine add_str (fun t' tk => ?_) (by rw [S_length, S_length, sizeLine_eq]; omega)
  rw [S_append]; exact h t' tk
end
theorem stored_ex {st : List Str} {m' m₀ : Str → Option Value} (h : ∀ z, st.contains z = false → m' z = m₀ z) : ∃ u : Str → Option Value, m' = fun z => if st.contains z = true then u z else m₀ z := by
  refine ⟨m', funext fun z => ?_⟩
  cases hz : st.contains z with
  | true => simp
  | false => simp only [Bool.false_eq_true, if_false]; exact h z hz
end Mine
end

section
open PySem PySem.W PyProof.Rows PySem.Spec PySem.Calls
namespace Mine

theorem join_size (x : Int) : (((List.range 10).map fun k => S [fmSign x k]).map (·.length)).sum + ((List.range 10).map fun k => S [fmSign x k]).length * (Str.ofString "").length ≤ 16777216 := by
  simp only [List.map_map]
  rw [show ((fun x : Str => x.length) ∘ fun k => S [fmSign x k]) = fun _ => 1 from rfl]
  simp only [List.length_map, List.length_range]
  decide
theorem joinS (l : List Nat) : Txt.join (Str.ofString "") (l.map fun k => S [k]) = S l := by
  have h : Txt.join (Str.ofString "") (l.map fun k => S [k]) = Str.join ⟨#[]⟩ (l.map fun k => S [k]) := eq_of_beq (join_closes (by decide +kernel))
  have e : signs (S l) = l.map fun k => S [k] := by simp [signs, S]
  rw [h, ← e]
  exact join_nil_signs _
theorem offL {D : Addr} {a b c : List (Addr × Obj)} (h1 : ∀ p ∈ a, p.1 ≠ D) (h2 : ∀ p ∈ b, p.1 ≠ D) (h3 : ∀ p ∈ c, p.1 ≠ D) : ∀ p ∈ a ++ b ++ c, p.1 ≠ D := by
  intro p hp
  rcases List.mem_append.mp hp with hp | hp
  · exact (List.mem_append.mp hp).elim (h1 p) (h2 p)
  · exact h3 p hp
theorem led_in2 {q : Addr × Obj} {a b c : List (Addr × Obj)} {p : Addr × Obj} (h : p ∈ q :: a ++ b) : p ∈ q :: (a ++ b ++ c) := by
  rcases List.mem_cons.mp h with rfl | h
  · exact .head _
  · exact .tail _ (List.mem_append_left _ h)
noncomputable def fmStored : List Str := [Str.ofString "index", Str.ofString "table", Str.ofString "bit", Str.ofString "char"]
theorem jEnd {D : Addr} {i c : Nat} {news : List (Addr × Obj)} {vs : List Value} {t : Tok} {x : Int} {m' m₀ : Str → Option Value} (hS : StrsAre vs ((List.range i).map fun k => S [fmSign x k])) (hsc : fmSign x i = c) (hm : ∀ z, fmStored.contains z = false → m' z = m₀ z) :
    ∃ (vs' : List Value) (u : Str → Option Value), (D, listOf (vs ++ [Value.str (S [c]) t]).toArray (i + 1)) :: news = (D, listOf vs'.toArray (i + 1)) :: news ∧ StrsAre vs' ((List.range (i + 1)).map fun k => S [fmSign x k]) ∧ m' = fun z => if fmStored.contains z = true then u z else m₀ z := by
  obtain ⟨u, hu⟩ := stored_ex hm
  refine ⟨_, u, rfl, ?_, hu⟩
  rw [List.range_succ, List.map_append, List.map_singleton, hsc]
  exact hS.append' (.cons _ _ .nil)

section
variable {w : World} {mean : ExcName → Option Value} {mg mb : Str → Option Value} {news : List (Addr × Obj)}
  {dp un : Nat} {gd : Option (List Code)} {cn : Str} {cs : Scope} {a : Addr} {ccd : Value} {cl : List (Str × Addr)} {outer : List Env} {A₀ : Around} {base h₀ : Heap} {L : Addr} {m : Str → Option Value} {s : Shared} {Q E : Value → Shared → Prop}
set_option maxRecDepth 100000 in
set_option maxHeartbeats 8000000 in
theorem ifmt_use {hS0 : Heap} {gS : Array GenState} {dS : Drawn} {tS : Nat} {oS : OsState} {x : Int} {tx : Tok} (B : Below A₀ base outer h₀) (F : Fr h₀ L hS0 m) (X : (hd.heap_39 w.params).In h₀) (N : News h₀ L hS0 news) (T : Top hd.view_39 (looseW hd.view_39 [Str.ofString "_filemode_table"]) mean mg mb h₀) (hk : cs.kind = .function)
    (hdp : dp + 1 < recursionLimit) (hun : un + 8 < cLine) (hret : ∀ (t : Tok) (h' : Heap) (tk' : Nat), Fr h₀ L h' m → News h₀ L h' news → Q (.int (Builtin.bitAnd x 61440) t) ⟨h', gS, dS, tk', oS⟩) :
    wpAny (model Challenge.rw_pe0142_01.row.prog w) (ktrTop dp un gd cn cs L a ccd cl outer) (call (.ref 42) [.int x tx]) Q E ⟨hS0, gS, dS, tS, oS⟩ := by
  revert X
  k_fill
  w_top off
  k_with_none
  intro X
  refine wpAny_call ?_
  k_dflt cell_enter
  k_steps
  exact cb_retI (s := ⟨hS0, gS, dS, tS, oS⟩) hret rfl (by k_asm) (by k_asm)
set_option maxRecDepth 100000 in
set_option maxHeartbeats 8000000 in
theorem imode_use {hS0 : Heap} {gS : Array GenState} {dS : Drawn} {tS : Nat} {oS : OsState} {x : Int} {tx : Tok} (B : Below A₀ base outer h₀) (F : Fr h₀ L hS0 m) (X : (hd.heap_39 w.params).In h₀) (N : News h₀ L hS0 news) (T : Top hd.view_39 (looseW hd.view_39 [Str.ofString "_filemode_table"]) mean mg mb h₀) (hk : cs.kind = .function)
    (hdp : dp + 1 < recursionLimit) (hun : un + 8 < cLine) (hret : ∀ (t : Tok) (h' : Heap) (tk' : Nat), Fr h₀ L h' m → News h₀ L h' news → Q (.int (Builtin.bitAnd x 4095) t) ⟨h', gS, dS, tk', oS⟩) :
    wpAny (model Challenge.rw_pe0142_01.row.prog w) (ktrTop dp un gd cn cs L a ccd cl outer) (call (.ref 35) [.int x tx]) Q E ⟨hS0, gS, dS, tS, oS⟩ := by
  revert X
  k_fill
  w_top off
  k_with_none
  intro X
  refine wpAny_call ?_
  k_dflt cell_enter
  k_steps
  exact cb_retI (s := ⟨hS0, gS, dS, tS, oS⟩) hret rfl (by k_asm) (by k_asm)
set_option maxRecDepth 100000 in
set_option maxHeartbeats 40000000 in
theorem filemode_use {hS0 : Heap} {gS : Array GenState} {dS : Drawn} {tS : Nat} {oS : OsState} {x : Int} {tx : Tok} (B : Below A₀ base outer h₀) (F : Fr h₀ L hS0 m) (X : (hd.heap_39 w.params).In h₀) (N : News h₀ L hS0 news) (T : Top hd.view_39 (looseW hd.view_39 [Str.ofString "_filemode_table"]) mean mg mb h₀) (hk : cs.kind = .function)
    (hdp : dp + 2 < recursionLimit) (hun : un + 16 < cLine) (hret : ∀ (t : Tok) (h' : Heap) (tk' : Nat), Fr h₀ L h' m → News h₀ L h' news → Q (.str (S (fmChars x)) t) ⟨h', gS, dS, tk', oS⟩) :
    wpAny (model Challenge.rw_pe0142_01.row.prog w) (ktrTop dp un gd cn cs L a ccd cl outer) (call (.ref 82) [.int x tx]) Q E ⟨hS0, gS, dS, tS, oS⟩ := by
  revert X
  k_fill
  w_top off
  k_with_none
  k_with "execs cons" => (((try clear qk); (try clear ek); (try k_fold); (with_reducible refine wpAny_execs_cons ?_); k_fold; (try dsimp only)))
  k_with "exec For Tuple Call cons nil" => (((with_unfolding_all refine' For_at ?kF ?_ ?k1 ?k2; (case kF => assumption); (case k1 => exact fun _ => rfl); (case k2 => passes_own); k_whole)))
  k_with "call type:enumerate" => ((refine stopped_of ?_))
  k_with "exec For Tuple Name cons cons" => (((with_unfolding_all refine' For_at ?kF ?_ ?k1 ?k2; (case kF => assumption); (case k1 => exact fun _ => rfl); (case k2 => passes_own); k_whole)))
  k_with "pyIter ref" => ((refine stopped_of ?_))
  k_with "call ref" => (((with_reducible show wpAny _ _ (call (Value.ref 42) _) _ _ _); k_dflt (refine' ifmt_use ?k1 ?k2 ?k3 ?k4 ?k5 ?kK ?kd ?ku ?_; (case k1 => k_asm); (case k2 => k_asm); (case k3 => k_asm); (case k4 => k_asm); (case k5 => k_asm); (case kK => exact rfl); (case kd => ktr_room); (case ku => ktr_units)); intro _ _ _ _ _))
  k_with "TurnPost" => ((refine stopped_of ?_))
  intro X
  refine wpAny_call ?_
  k_dflt cell_enter
  rename_i g L1 h1 FG F1 N1 B1 X1 T1
  replace F1 : Fr g L1 h1 (upd (fun _ => none) (Str.ofString "mode") (.int x tx)) := by
    refine fr_eq F1 ?_
    refine Eq.trans (b := fun y' => List.lookup y' [(Str.ofString "mode", .int x tx)]) (by rfl) ?_
    rw [lookup_upd, lookup_nil]
  k_steps
  refine Stopped.mk ?_
  rename_i D h2 l1 h3 F2 N2
  have hl : g.IsTuple 75 _ := ⟨_, X1 _ _ (tab75 _), rfl, 0, rfl⟩
  refine forEnum rfl F2 N2 hl ?_
  intro I hI fp wr Md St XS F3 N3
  obtain ⟨m₀, hm₀⟩ : ∃ m₀ : Str → Option Value, m₀ = fun y => if y = Str.ofString "perm" then some (Value.ref D) else upd (fun _ => none) (Str.ofString "mode") (.int x tx) y := ⟨_, rfl⟩
  rw [← hm₀] at F3
  refine ForAt.go (fun i m₁ nw => ∃ vs u, nw = (D, listOf vs.toArray i) :: news ∧ StrsAre vs ((List.range i).map fun k => S [fmSign x k]) ∧ m₁ = fun z => if fmStored.contains z then u z else m₀ z) XS F3 N3 (⟨[], m₀, rfl, .nil, ?_⟩) ?_ ?_
  · funext z; simp
  · intro i v m₁ news₁ h₁ tk₁ own hi hP hJ9 hoff O F N
    k_fold
    obtain ⟨vs, u, rfl, hS, rfl⟩ := hJ9
    have hvl : vs.length = i := by simpa using hS.length
    have hi10 : i < 10 := hi
    have hDwr : D ∉ wr := hoff (D, listOf vs.toArray i) (.head _)
    have hDw : ∀ p ∈ own, p.1 ≠ D := fun p hp e => by
      rcases O.ap p hp with h | h
      · exact hoff _ (.head _) (by rw [← e]; exact h)
      · exact absurd h (by simp)
    have hDn : ∀ p ∈ news, p.1 ≠ D := fun p hp => Nat.ne_of_lt (l1 p hp)
    obtain ⟨T0, a9, b9, rfl, ⟨⟨t, rfl⟩, hb⟩, hT⟩ := hP
    obtain ⟨T, hTb, hTab⟩ := tabs_ok w.params i hi
    obtain rfl : b9 = .ref T := Option.some.inj (hb.symm.trans hTb)
    replace hT : IsTup h₁ T0 #[.int i t, .ref T] := hT
    subst hm₀
    unfold fmStored at F
    k_sweep
    k_steps
    refine Stopped.mk ?_
    rename Fr _ _ _ _ => F6
    rename News _ _ _ _ => N6
    obtain ⟨es, hes1, hes2, hes3⟩ := hTab
    have hl2 : g.IsTuple T es.toArray := ⟨_, X1 _ _ hes1, rfl, 0, rfl⟩
    refine forTup rfl F6 N6 hl2 ?_
    intro I2 hI2 fp2 wr2 Md2 St2 XS2 F7 N7
    obtain ⟨m₁, hm₁⟩ : ∃ m₁ : Str → Option Value, m₁ = fun y => if y = Str.ofString "table" then some (.ref T) else if y = Str.ofString "index" then some (.int i t) else if [Str.ofString "index", Str.ofString "table", Str.ofString "bit", Str.ofString "char"].contains y = true then u y else if y = Str.ofString "perm" then some (.ref D) else upd (fun _ => none) (Str.ofString "mode") (.int x tx) y := ⟨_, rfl⟩
    replace F7 : Fr g L1 hI2 m₁ := by rw [hm₁]; exact F7
    refine ForAt.go (fun j m₂ nw => (nw = (D, listOf vs.toArray i) :: news ++ own) ∧ (∃ u2 : Str → Option Value, m₂ = fun z => if [Str.ofString "bit", Str.ofString "char"].contains z then u2 z else m₁ z) ∧ ∀ (j' : Nat) (q : Nat × Nat), j' < j → (tabs.getD i [])[j']? = some q → hitB i x q.1 = false) XS2 F7 N7 (⟨rfl, ⟨m₁, (by funext z; simp)⟩, fun _ _ h => absurd h (Nat.not_lt_zero _)⟩) ?_ ?_
    · intro j v m₂ news₂ h₂ tk₂ own2 hj hP hJ9 hoff2 O2 F N
      k_fold
      obtain ⟨rfl, ⟨u2, rfl⟩, hno⟩ := hJ9
      obtain ⟨T2, b, c, tb, tc, rfl, htab, hT2⟩ := hes3 j v (by simpa using hP)
      have hT2' : IsTup h₂ T2 #[.int b tb, .str (S [c]) tc] := ⟨_, F.keep _ _ (X1 _ _ hT2), rfl, 0, rfl⟩
      subst hm₁
      have hDw2 : ∀ p ∈ own2, p.1 ≠ D := fun p hp e => by
        rcases O2.ap p hp with h | h
        · exact hoff2 _ (.head _) (by rw [← e]; exact h)
        · exact absurd h (by simp)
      k_sweep
      k_steps
      · rename_i hh
        rename Fr _ _ _ _ => F9
        rename News _ _ _ _ => N9
        have hb9 : hitB i x b = true := by unfold hitB; rw [if_pos (by omega)]; exact decide_eq_true hh
        have hsc : fmSign x i = c := scan_hit htab (fun j' q hj' hq => hno j' q hj' hq) hb9
        refine appendL F9 N9 (offL hDn hDw hDw2) (by omega) ?_
        intro h10 F10 N10
        k_steps
        refine Stopped.mk ?_
        dsimp only [TurnPost]
        k_steps
        refine Stopped.mk ?_
        refine TurnPost.next ((D, listOf (vs ++ [Value.str (S [c]) _]).toArray (i + 1)) :: news) F10 N10 (fun p hp => led_in2 hp) (fun p hp => ?_) (jEnd hS hsc fun z hz => ?_)
        · revert p; exact (all_cons (hDwr) (fun p hp => (hoff p (.tail _ hp))))
        · unfold fmStored at hz
          simp only [List.contains_cons, List.contains_nil, Bool.or_false, Bool.or_eq_false_iff, beq_eq_false_iff_ne, ne_eq] at hz
          obtain ⟨z1, z2, z3, z4⟩ := hz
          simp [z1, z2, z3, z4]
      · rename_i hh
        rename Fr _ _ _ _ => F9
        rename News _ _ _ _ => N9
        have hb9 : hitB i x b = false := by unfold hitB; rw [if_pos (by omega)]; exact decide_eq_false hh
        refine Stopped.mk ?_
        refine TurnPost.next ((D, listOf vs.toArray i) :: news ++ own) F9 N9 (fun p hp => hp) hoff2 ⟨rfl, stored_ex fun z hz => ?_, fun j' q hj' hq => ?_⟩
        · simp only [List.contains_cons, List.contains_nil, Bool.or_false, Bool.or_eq_false_iff, beq_eq_false_iff_ne, ne_eq] at hz
          obtain ⟨z3, z4⟩ := hz
          simp [z3, z4]
        · rcases Nat.lt_succ_iff_lt_or_eq.mp hj' with hj' | rfl
          · exact hno j' q hj' hq
          · rw [htab] at hq
            obtain rfl := Option.some.inj hq
            exact hb9
      · rename_i hh
        rename Fr _ _ _ _ => F9
        rename News _ _ _ _ => N9
        have hb9 : hitB i x b = true := by unfold hitB; rw [if_neg (by omega)]; exact decide_eq_true hh
        have hsc : fmSign x i = c := scan_hit htab (fun j' q hj' hq => hno j' q hj' hq) hb9
        refine appendL F9 N9 (offL hDn hDw hDw2) (by omega) ?_
        intro h10 F10 N10
        k_steps
        refine Stopped.mk ?_
        dsimp only [TurnPost]
        k_steps
        refine Stopped.mk ?_
        refine TurnPost.next ((D, listOf (vs ++ [Value.str (S [c]) _]).toArray (i + 1)) :: news) F10 N10 (fun p hp => led_in2 hp) (fun p hp => ?_) (jEnd hS hsc fun z hz => ?_)
        · revert p; exact (all_cons (hDwr) (fun p hp => (hoff p (.tail _ hp))))
        · unfold fmStored at hz
          simp only [List.contains_cons, List.contains_nil, Bool.or_false, Bool.or_eq_false_iff, beq_eq_false_iff_ne, ne_eq] at hz
          obtain ⟨z1, z2, z3, z4⟩ := hz
          simp [z1, z2, z3, z4]
      · rename_i hh
        rename Fr _ _ _ _ => F9
        rename News _ _ _ _ => N9
        have hb9 : hitB i x b = false := by unfold hitB; rw [if_neg (by omega)]; exact decide_eq_false hh
        refine Stopped.mk ?_
        refine TurnPost.next ((D, listOf vs.toArray i) :: news ++ own) F9 N9 (fun p hp => hp) hoff2 ⟨rfl, stored_ex fun z hz => ?_, fun j' q hj' hq => ?_⟩
        · simp only [List.contains_cons, List.contains_nil, Bool.or_false, Bool.or_eq_false_iff, beq_eq_false_iff_ne, ne_eq] at hz
          obtain ⟨z3, z4⟩ := hz
          simp [z3, z4]
        · rcases Nat.lt_succ_iff_lt_or_eq.mp hj' with hj' | rfl
          · exact hno j' q hj' hq
          · rw [htab] at hq
            obtain rfl := Option.some.inj hq
            exact hb9
    · intro h9 tk9 m₂ news₂ F N hJ
      obtain ⟨rfl, ⟨u2, rfl⟩, hno⟩ := hJ
      subst hm₁
      have hsc0 : fmSign x i = if i = 0 then 63 else 45 := scan_no fun j' q hq => hno j' q (by
        rw [List.size_toArray, hes2]
        exact (List.getElem?_eq_some_iff.mp hq).1) hq
      k_sweep
      k_steps
      · have hsc : fmSign x i = 63 := by rw [hsc0, if_pos (by omega)]
        rw [show Str.ofString "?" = S [63] from by decide +kernel]
        refine appendL F N (fun p hp => (List.mem_append.mp hp).elim (hDn p) (hDw p)) (by omega) ?_
        intro h10 F10 N10
        k_steps
        refine Stopped.mk ?_
        refine TurnPost.next ((D, listOf (vs ++ [Value.str (S [63]) _]).toArray (i + 1)) :: news) F10 N10 (fun p hp => hp) (fun p hp => ?_) (jEnd hS hsc fun z hz => ?_)
        · revert p; exact (all_cons (hDwr) (fun p hp => (hoff p (.tail _ hp))))
        · unfold fmStored at hz
          simp only [List.contains_cons, List.contains_nil, Bool.or_false, Bool.or_eq_false_iff, beq_eq_false_iff_ne, ne_eq] at hz
          obtain ⟨z1, z2, z3, z4⟩ := hz
          simp [z1, z2, z3, z4]
      · have hsc : fmSign x i = 45 := by rw [hsc0, if_neg (by omega)]
        rw [show Str.ofString "-" = S [45] from by decide +kernel]
        refine appendL F N (fun p hp => (List.mem_append.mp hp).elim (hDn p) (hDw p)) (by omega) ?_
        intro h10 F10 N10
        k_steps
        refine Stopped.mk ?_
        refine TurnPost.next ((D, listOf (vs ++ [Value.str (S [45]) _]).toArray (i + 1)) :: news) F10 N10 (fun p hp => hp) (fun p hp => ?_) (jEnd hS hsc fun z hz => ?_)
        · revert p; exact (all_cons (hDwr) (fun p hp => (hoff p (.tail _ hp))))
        · unfold fmStored at hz
          simp only [List.contains_cons, List.contains_nil, Bool.or_false, Bool.or_eq_false_iff, beq_eq_false_iff_ne, ne_eq] at hz
          obtain ⟨z1, z2, z3, z4⟩ := hz
          simp [z1, z2, z3, z4]
  · rintro h₉ tk₉ m₁ news₁ F N ⟨vs, u, rfl, hS, rfl⟩
    subst hm₀
    unfold fmStored at F
    k_sweep
    k_steps
    refine join_list (ys := (List.range 10).map fun k => S [fmSign x k]) ⟨_, (N _ (.head _)).1, rfl, _, rfl⟩ hS (join_size x) ?_
    intro t9 k9
    k_steps
    rename Fr _ _ _ _ => kF
    rename News _ _ _ _ => kN
    exact cb_retS (s := ⟨hS0, gS, dS, tS, oS⟩) hret (by rw [show ((List.range 10).map fun k => S [fmSign x k]) = (fmChars x).map fun k => S [k] from by unfold fmChars; rw [List.map_map]; rfl]; exact joinS _) kF (fun p hp => kN p (.tail _ hp))
end
end Mine
end

section
open PySem PySem.W PyProof.Rows PySem.Spec PySem.Calls
namespace Mine
local macro_rules | `(tactic| k_steps) => `(tactic| repeat' (first | (k_unfold; (try dsimp only)) | walk1 | (dsimp only; walk1) | (leave1; walk_say "STEP leave1"; try dsimp only) | fail "no step"))

theorem led_left {a p : Addr × Obj} {l r : List (Addr × Obj)} (h : p ∈ a :: l) : p ∈ a :: (l ++ r) := List.mem_append_left (as := a :: l) r h
theorem led_right {a p : Addr × Obj} {l r : List (Addr × Obj)} (h : p ∈ r) : p ∈ a :: (l ++ r) := .tail _ (List.mem_append_right _ h)
theorem led_in {a p : Addr × Obj} {l r : List (Addr × Obj)} (h : p ∈ l) : p ∈ a :: (l ++ r) := .tail _ (List.mem_append_left _ h)
theorem tup4 {α β γ δ : Type} {P : α × β × γ × δ → Prop} (h : ∀ a b c d, P (a, b, c, d)) : ∀ x, P x := fun x => h x.1 x.2.1 x.2.2.1 x.2.2.2
theorem tup8 {α β γ δ : Type} {P : α × β × (γ × δ) × (γ × δ) × (γ × δ) → Prop} (h : ∀ a b c d e f g i, P (a, b, (c, d), (e, f), (g, i))) : ∀ x, P x := fun x => h x.1 x.2.1 x.2.2.1.1 x.2.2.1.2 x.2.2.2.1.1 x.2.2.2.1.2 x.2.2.2.2.1 x.2.2.2.2.2
theorem pmin_eq (x y : Int) : (if y < x then y else x) = min x y := by split <;> omega
theorem offD {D : Addr} {o : Obj} {news own own2 : List (Addr × Obj)} (h1 : ∀ p ∈ news, p.1 ≠ D) (h2 : OwnOff own (((D, o) :: news).map (·.1))) (h3 : OwnOff own2 (((D, o) :: (news ++ own)).map (·.1))) :
    ∀ p ∈ (news ++ own) ++ own2, p.1 ≠ D := by
  intro p hp
  rcases List.mem_append.mp hp with hp | hp
  · rcases List.mem_append.mp hp with hp | hp
    · exact h1 p hp
    · exact h2 p hp D (List.mem_map.mpr ⟨(D, o), .head _, rfl⟩)
  · exact h3 p hp D (List.mem_map.mpr ⟨(D, o), .head _, rfl⟩)

section
variable {w : World} {mean : ExcName → Option Value} {mg mb : Str → Option Value} {news : List (Addr × Obj)}
  {dp un : Nat} {gd : Option (List Code)} {cn : Str} {cs : Scope} {a : Addr} {ccd : Value} {cl : List (Str × Addr)} {outer : List Env} {A₀ : Around} {base h₀ : Heap} {L : Addr} {m : Str → Option Value} {s : Shared} {Q E : Value → Shared → Prop}
set_option maxRecDepth 100000 in
set_option maxHeartbeats 40000000 in
theorem lev_use {hS : Heap} {gS : Array GenState} {dS : Drawn} {tS : Nat} {oS : OsState} {x y : List Nat} {mc : Int} {tx ty tm : Tok} (hx : x.length ≤ 40) (hy : y.length ≤ 40) (hmc : -1 ≤ mc ∧ mc ≤ 1000)
    (B : Below A₀ base outer h₀) (F : Fr h₀ L hS m) (X : (hd.heap_39 w.params).In h₀) (N : News h₀ L hS news) (T : Top hd.view_39 (looseW hd.view_39 [Str.ofString "_filemode_table"]) mean mg mb h₀) (hk : cs.kind = .function)
    (hdp : dp + 2 < recursionLimit) (hun : un + 16 < cLine) (hret : ∀ (t : Tok) (h' : Heap) (tk' : Nat), Fr h₀ L h' m → News h₀ L h' news → Q (.int (levF x y mc) t) ⟨h', gS, dS, tk', oS⟩) :
    wpAny (model Challenge.rw_pe0142_01.row.prog w) (ktrTop dp un gd cn cs L a ccd cl outer) (call (.ref 28) [.str (S x) tx, .str (S y) ty, .int mc tm]) Q E ⟨hS, gS, dS, tS, oS⟩ := by
  revert X
  k_fill
  w_top off
  k_with_none
  k_with "execs cons" => (((try clear qk); (try clear ek); (try k_fold); (with_reducible refine wpAny_execs_cons ?_); k_fold; (try dsimp only)))
  k_with "exec While BoolOp cons nil" => (refine stopped_of ?_)
  k_with "subscriptTail Name Slice str ref" => ((first | (refine sliceS_from (s := ⟨_, _, _, _, _⟩) (by with_reducible assumption) (by with_reducible assumption) (by omega) (by omega) ?_; intro _ _ _ _ _) | (refine sliceS_cut (s := ⟨_, _, _, _, _⟩) (by with_reducible assumption) (by with_reducible assumption) (by omega) (by omega) ?_; intro _ _ _ _ _) | (refine sliceS_all (s := ⟨_, _, _, _, _⟩) (by with_reducible assumption) (by with_reducible assumption) (by omega) ?_; intro _ _ _ _ _)))
  k_with "subscriptTail Name Name str int" => ((refine itemS_at (by omega) (by omega) ?_; intro _))
  k_with "ite" => (first | (with_reducible refine ite_tt ?_) | (with_reducible refine ite_ft ?_))
  k_with "execs nil" => ((with_reducible refine wpAny_execs_nil ?_))
  k_with "truthy int" => (first | (refine truthyI_yes (by omega) ?_) | (refine truthyI_no (by omega) ?_))
  k_with "truthy str" => ((refine truthyS (by (try simp only [List.length_drop, cutEnd_length]); omega) ?_ ?_ <;> (intro _ hL'; (try simp only [List.length_drop, cutEnd_length] at hL'); revert hL'; intro _)))
  k_with "subscriptTail Name BinOp str int" => ((refine itemS_neg (by omega) (by omega) ?_; intro _))
  k_with "call builtin:len" => ((refine lenS (by omega) ?_; intro _))
  k_with "execs cons" => (((with_reducible show wpAny _ _ (execs (Stmt.If (Expr.Compare _ [CmpOp.Lt] _ _) [Stmt.Assign [Expr.Tuple _ _ _] _ _] _ _ :: _) _) _ _ _); refine stopped_of ?_))
  k_with "exec For Name Call cons nil" => (((with_unfolding_all refine' For_invVF ?kF ?k1 ?k2 ?_; (case kF => assumption); (case k1 => exact rfl); (case k2 => exact rfl); k_whole)))
  k_with "pyIter ref" => ((refine stopped_of ?_))
  k_with "call type:list" => (((refine listRangeK rfl (by with_reducible assumption) (by with_reducible assumption) (by with_reducible assumption) (range2_small (by omega)) (range2_size _) (by omega) ?_); intro _ _ _ _ _ _ _ _ _))
  k_with "call ref" => (((with_reducible show wpAny _ _ (call (Value.ref 21) _) _ _ _); k_dflt (refine' subst_use ?k1 ?k2 ?k3 ?k4 ?k5 ?kK ?kd ?ku ?_; (case k1 => k_asm); (case k2 => k_asm); (case k3 => k_asm); (case k4 => k_asm); (case k5 => k_asm); (case kK => exact rfl); (case kd => ktr_room); (case ku => ktr_units)); intro _ _ _ _ _))
  k_with "InvEndN" => (refine stopped_of ?_)
  k_with "subscriptTail Name Name ref int" => (((refine ksa_sub (by with_reducible assumption) (List.mem_append_left _ (.head _)) (by assumption) (by omega) (by omega) (by omega) ?_); intro _))
  intro X
  refine wpAny_call ?_
  k_dflt cell_enter
  rename_i g L1 h1 FG F1 N1 B1 X1 T1
  replace F1 : Fr g L1 h1 (upd (upd (upd (fun _ => none) (Str.ofString "a") (.str (S x) tx)) (Str.ofString "b") (.str (S y) ty)) (Str.ofString "max_cost") (.int mc tm)) := by
    refine fr_eq F1 ?_
    refine Eq.trans (b := fun y' => List.lookup y' [(Str.ofString "max_cost", .int mc tm), (Str.ofString "b", .str (S y) ty), (Str.ofString "a", .str (S x) tx)]) (by rfl) ?_
    rw [lookup_upd, lookup_upd, lookup_upd, lookup_nil]
  k_steps
  · rename_i hxy _ _ _ _
    rw [S_beq, decide_eq_true_eq] at hxy
    exact cb_retI (s := ⟨hS, gS, dS, tS, oS⟩) hret (by unfold levF; rw [if_pos hxy]) (by k_asm) (by k_asm)
  · refine Stopped.mk ?_
    rename_i hxy _ _ _
    rw [S_beq, decide_eq_false_iff_not] at hxy
    refine While_to (x := Str.ofString "pre") (lcp x y : Int) (fun k => 0 ≤ k ∧ k ≤ lcp x y) (fun k => lcp x y - k.toNat) 0 _ (by k_asm) (by k_asm) (by omega) ?_ ?_
    · intro k t h tk hI F N
      k_sweep
      have hl1 := lcp_le_left x y
      have hl2 := lcp_le_right x y
      k_steps
      · have hg := pre_go hI.1 hI.2 (by assumption) (by assumption) (by assumption)
        exact Turns.mk (by k_asm) (by k_asm) ⟨by omega, hg⟩ (by omega)
      · exact Exits.mk (by k_asm) (by k_asm) (pre_stop3 hI.1 hI.2 (by assumption) (by assumption) (by assumption))
      · exact Exits.mk (by k_asm) (by k_asm) (pre_stop2 hI.1 hI.2 (by assumption))
      · exact Exits.mk (by k_asm) (by k_asm) (pre_stop1 hI.1 hI.2 (by assumption))
    · intro t h tk F N
      k_sweep
      have hl1 := lcp_le_left x y
      have hl2 := lcp_le_right x y
      k_steps
      refine Stopped.mk ?_
      rename_i F2 N2
      obtain ⟨a1, ha1⟩ : ∃ a1, a1 = x.drop (lcp x y) := ⟨_, rfl⟩
      obtain ⟨b1, hb1⟩ : ∃ b1, b1 = y.drop (lcp x y) := ⟨_, rfl⟩
      rw [Int.toNat_natCast, ← ha1, ← hb1] at F2
      have la1 : a1.length ≤ 40 := by rw [ha1, List.length_drop]; omega
      have lb1 : b1.length ≤ 40 := by rw [hb1, List.length_drop]; omega
      replace F2 := fr_eq (m' := upd (upd (upd (upd (upd (fun _ => none) (Str.ofString "a") (.str (S a1) _)) (Str.ofString "b") (.str (S b1) _)) (Str.ofString "max_cost") (.int mc tm)) (Str.ofString "pre") (.int (lcp x y) t)) (Str.ofString "post") (.int 0 _)) F2 (by
        funext z
        by_cases h1 : z = Str.ofString "a"
        · subst h1; rfl
        by_cases h2 : z = Str.ofString "b"
        · subst h2; rfl
        by_cases h3 : z = Str.ofString "post"
        · subst h3; rfl
        simp [upd, h1, h2, h3])
      refine While_to (x := Str.ofString "post") (-(lcs a1 b1 : Int)) (fun k => k ≤ 0 ∧ -k ≤ lcs a1 b1) (fun k => lcs a1 b1 - (-k).toNat) 0 _ F2 N2 (by omega) ?_ ?_
      · clear F2 N2
        intro k t h tk hI F N
        have hl3 := lcs_le_left a1 b1
        have hl4 := lcs_le_right a1 b1
        k_sweep
        rcases Int.lt_or_eq_of_le hI.1 with hk0 | hk0
        · k_steps
          · have hg := post_go hI.1 hI.2 (by assumption) (by assumption) (by assumption)
            exact Turns.mk (by k_asm) (by k_asm) ⟨by omega, hg⟩ (by omega)
          · exact Exits.mk (by k_asm) (by k_asm) (post_stop3 hI.1 hI.2 (by assumption) (by assumption) (by assumption))
          · exact Exits.mk (by k_asm) (by k_asm) (post_stop2 hI.1 hI.2 (by assumption))
          · exact Exits.mk (by k_asm) (by k_asm) (post_stop1 hI.1 hI.2 (by assumption))
        · subst hk0
          have e1 := cutEnd_0 a1
          have e2 := cutEnd_0 b1
          k_steps
          · have hg := post_go hI.1 hI.2 (by rw [e1]; assumption) (by rw [e2]; assumption) (by assumption)
            exact Turns.mk (by k_asm) (by k_asm) ⟨by omega, hg⟩ (by omega)
          · exact Exits.mk (by k_asm) (by k_asm) (post_stop3 hI.1 hI.2 (by rw [e1]; assumption) (by rw [e2]; assumption) (by assumption))
          · exact Exits.mk (by k_asm) (by k_asm) (post_stop2 hI.1 hI.2 (by rw [e2]; assumption))
          · exact Exits.mk (by k_asm) (by k_asm) (post_stop1 hI.1 hI.2 (by rw [e1]; assumption))
      · clear F2 N2
        intro t2 h tk F N
        have hl3 := lcs_le_left a1 b1
        have hl4 := lcs_le_right a1 b1
        obtain ⟨j, hj⟩ : ∃ j : Int, j = -(lcs a1 b1 : Int) := ⟨_, rfl⟩
        rw [← hj] at F
        obtain ⟨a2, ha2⟩ : ∃ a2, a2 = cutEnd a1 j := ⟨_, rfl⟩
        obtain ⟨b2, hb2⟩ : ∃ b2, b2 = cutEnd b1 j := ⟨_, rfl⟩
        have la2 : a2.length ≤ 40 := by rw [ha2, cutEnd_length]; omega
        have lb2 : b2.length ≤ 40 := by rw [hb2, cutEnd_length]; omega
        k_sweep
        have hj0 : j = 0 ∨ j < 0 := by omega
        refine cut_set (Str.ofString "a") (fun t => .str (S a2) t) F N ?_ ?_
        · rcases hj0 with hj0 | hj0
          · k_steps
            exact Sets.mk (by k_asm) (by k_asm) ⟨_, by rw [ha2, hj0, cutEnd_0]⟩
          · k_steps
            exact Sets.mk (by k_asm) (by k_asm) ⟨_, by rw [ha2]⟩
        clear F N
        intro ta2 h tk F N
        refine cut_set (Str.ofString "b") (fun t => .str (S b2) t) F N ?_ ?_
        · rcases hj0 with hj0 | hj0
          · k_steps
            exact Sets.mk (by k_asm) (by k_asm) ⟨_, by rw [hb2, hj0, cutEnd_0]⟩
          · k_steps
            exact Sets.mk (by k_asm) (by k_asm) ⟨_, by rw [hb2]⟩
        clear F N
        intro tb2 h tk F N
        k_sweep
        replace F := fr_eq (m' := upd (upd (upd (upd (upd (fun _ => none) (Str.ofString "a") (.str (S a2) ta2)) (Str.ofString "b") (.str (S b2) tb2)) (Str.ofString "max_cost") (.int mc tm)) (Str.ofString "pre") (.int (lcp x y) t)) (Str.ofString "post") (.int j t2)) F (by
          funext z
          by_cases h1 : z = Str.ofString "a"
          · subst h1; rfl
          by_cases h2 : z = Str.ofString "b"
          · subst h2; rfl
          simp [upd, h1, h2])
        clear hl3 hl4 hj0
        have hV : levF x y mc = levCore a2 b2 mc := by unfold levF; rw [if_neg hxy, ← ha1, ← hb1, ← hj, ← ha2, ← hb2]
        k_steps
        rotate_left
        · exact cb_retI (s := ⟨hS, gS, dS, tS, oS⟩) hret (by rw [hV, levCore_nil (.inr (by assumption))]) (by k_asm) (by k_asm)
        · exact cb_retI (s := ⟨hS, gS, dS, tS, oS⟩) hret (by rw [hV, levCore_nil (.inl (by assumption))]) (by k_asm) (by k_asm)
        refine Stopped.mk ?_
        rename_i ha0 hla hb0 hlb _ _
        refine cut_lay (τ := Tok × Tok) (fun t' => upd (upd (upd (upd (upd (fun _ => none) (Str.ofString "a") (.str (S (sw a2 b2).1) t'.1)) (Str.ofString "b") (.str (S (sw a2 b2).2) t'.2)) (Str.ofString "max_cost") (.int mc tm)) (Str.ofString "pre") (.int (lcp x y) t)) (Str.ofString "post") (.int j t2)) F N ?_ ?_
        · by_cases hs : b2.length < a2.length
          · have hsw : sw a2 b2 = (b2, a2) := by unfold sw; rw [if_pos hs]
            k_steps
            exact Lays.mk (tb2, ta2) (by k_asm) (News.tail' (by k_asm)) (by
              rw [hsw]
              funext z
              by_cases h1 : z = Str.ofString "a"
              · subst h1; rfl
              by_cases h2 : z = Str.ofString "b"
              · subst h2; rfl
              simp [upd, h1, h2])
          · have hsw : sw a2 b2 = (a2, b2) := by unfold sw; rw [if_neg hs]
            k_steps
            exact Lays.mk (ta2, tb2) (by k_asm) (by k_asm) (by rw [hsw])
        clear F N
        intro tt h tk F N
        have hp1 := sw_le a2 b2
        have hp2 := sw_len a2 b2 40 la2 lb2
        have hp3 := sw_pos a2 b2 hla hlb
        have hV1 := fun h => hV.trans (levCore_far (mc := mc) ha0 hb0 h)
        have hV2 := fun h => hV.trans (levCore_dp (mc := mc) ha0 hb0 h)
        generalize (sw a2 b2).1 = p at *
        generalize (sw a2 b2).2 = q at *
        k_steps
        · exact cb_retI (s := ⟨hS, gS, dS, tS, oS⟩) hret (hV1 (by omega)).symm (by k_asm) (by k_asm)
        rename_i hmc2 _ _ _ _ _ _ _ _ D _ _ ys cc hD hI _ _ _ _ tl h3 tk3 _ _ _ R2 F2 N2 X2
        rw [rowInit_eq] at hI
        obtain ⟨t3, F2⟩ : ∃ t3, Fr g L1 h3 (upd (upd (upd (upd (upd (upd (upd (fun _ => none) (Str.ofString "a") (.str (S p) tt.1)) (Str.ofString "b") (.str (S q) tt.2)) (Str.ofString "max_cost") (.int mc tm)) (Str.ofString "pre") (.int (lcp x y) t)) (Str.ofString "post") (.int j t2)) (Str.ofString "row") (.ref D)) (Str.ofString "result") (.int 0 t3)) := ⟨_, F2⟩
        obtain ⟨V, hVe⟩ : ∃ V, V = levF x y mc := ⟨_, rfl⟩
        rw [← hVe] at hret
        have hV3 : dpGo p mc q (rowInit p.length) 0 0 = V := by rw [hVe, hV2 (by omega)]
        clear hV hV1 hV2 hVe
        refine Stopped.mk ?_
        refine kst_range (σ := List Value × List Int × Int × Tok) (x := Str.ofString "bindex") (fun c => (D, listOf c.1.toArray cc) :: news) (fun c => [(Str.ofString "result", .int c.2.2.1 c.2.2.2)]) (fun c => IntsAre c.1 c.2.1)
          [Str.ofString "bchar", Str.ofString "distance", Str.ofString "minimum", Str.ofString "index", Str.ofString "substitute", Str.ofString "insert_delete"]
          (fun pre c => c.2.1.length = p.length ∧ dpGo p mc (q.drop pre.length) c.2.1 pre.length c.2.2.1 = V) (ys, rowInit p.length, 0, t3) rfl R2 (range1_small (by omega)) (range1_size _) F2 N2 hI ?hk ⟨rowInit_length _, hV3⟩ ?turn ?done
        case hk => intro p hp; rw [List.mem_singleton.mp hp]; rfl
        case done =>
          refine tup4 ?_
          rintro vs ns res tr u h tk hfa ⟨_, hdp⟩ F N
          rw [rangeKs_length, List.drop_length] at hdp
          dsimp only at *
          k_sweep
          k_steps
          exact cb_retI (s := ⟨hS, gS, dS, tS, oS⟩) hret hdp (by k_asm) (News.tail' (by k_asm))
        case turn =>
          refine tup4 ?_
          rintro vs ns res tr pre k tk0 u h tk own hk0 hpre hoff hfa ⟨hnl, hdp⟩ F N
          rw [dpGo_cons hpre, show 2 * (pre.length : Int) = k * 2 from by omega, show q.getD pre.length 0 = q.getD k.toNat 0 from by rw [hk0]; congr 1; omega] at hdp
          dsimp only at *
          have hkq : 0 ≤ k ∧ k < q.length := by omega
          k_sweep
          k_steps
          rename_i R2 F2 N2 X2
          refine Stopped.mk ?_
          refine kst_range (σ := List Value × List Int × (Int × Tok) × (Int × Tok) × (Int × Tok)) (x := Str.ofString "index") (fun c => (D, listOf c.1.toArray cc) :: (news ++ own))
            (fun c => [(Str.ofString "distance", .int c.2.2.1.1 c.2.2.1.2), (Str.ofString "result", .int c.2.2.2.1.1 c.2.2.2.1.2), (Str.ofString "minimum", .int c.2.2.2.2.1 c.2.2.2.2.2)]) (fun c => IntsAre c.1 c.2.1)
            [Str.ofString "substitute", Str.ofString "insert_delete"]
            (fun pre2 c => InnerInv (q.getD k.toNat 0) p (innerRow (q.getD k.toNat 0) p ns (k * 2) (k * 2)) (innerRes (q.getD k.toNat 0) p ns (k * 2) (k * 2)) (innerMin (q.getD k.toNat 0) p ns (k * 2) (k * 2) bigN) pre2.length c.2.1 c.2.2.1.1 c.2.2.2.1.1 c.2.2.2.2.1)
            (vs, ns, (k * 2, ?t1), (k * 2, ?t2), (bigN, ?t3)) rfl R2 (range1_small (by omega)) (range1_size _) F2 N2 hfa ?hk2 (InnerInv.start _ _ _ _ _ _ hnl) ?turn2 ?done2
          case hk2 =>
            intro p hp
            simp only [List.mem_cons, List.not_mem_nil, or_false] at hp
            rcases hp with rfl | rfl | rfl
            · exact rfl
            · exact rfl
            · exact rfl
          case done2 =>
            refine tup8 ?_
            intro vs2 ns2 d2 td r2 tr2 mn2 tm2 u2 h tk hfa2 hinv F N
            rw [rangeKs_length] at hinv
            obtain ⟨e1, e2, e3⟩ := hinv.last
            dsimp only at *
            rw [← e1, ← e2, ← e3] at hdp
            k_sweep
            k_steps
            · rename_i hlt kF kN _ _
              exact cb_retI (s := ⟨hS, gS, dS, tS, oS⟩) hret (by rw [if_pos hlt] at hdp; exact hdp) kF (cb_drop kN fun p hp => led_in hp)
            · rename_i hlt
              rw [if_neg hlt] at hdp
              refine Stopped.mk ?_
              exact kst_end (vs2, ns2, r2, tr2) F N (fun p hp => led_left hp) (fun p hp => led_right hp) rfl hfa2 (by kst_all) (by intro z h1 h2 h3; simp only [List.forall_mem_cons, List.not_mem_nil, false_implies, implies_true, and_true, ne_eq] at h2; simp only [List.contains_cons, List.contains_nil, Bool.or_false, Bool.or_eq_false_iff, beq_eq_false_iff_ne, ne_eq] at h3; simp [kstB, h1, h2, h3])
                ⟨hinv.1, by rw [List.length_append, List.length_singleton]; exact hdp⟩
          case turn2 =>
            refine tup8 ?_
            intro vs2 ns2 d2 td r2 tr2 mn2 tm2 pre2 i ti u2 h tk own2 hi0 hpre2 hoff2 hfa2 hinv F N
            dsimp only at *
            k_sweep
            have hnl2 : ns2.length = p.length := hinv.1
            k_steps
            rename_i F8 N8
            refine ksa_set F8 N8 (.head (offD hD hoff hoff2)) hfa2 (by omega) (by omega) (by omega) ?_
            intro h9 F9 N9 hi9 _ _
            clear F8 N8
            simp only [pmin_eq] at F9 N9 hi9 ⊢
            have hit : i.toNat = pre2.length := by omega
            obtain ⟨r', hr'⟩ : ∃ r', r' = min (min r2 (ns2.getD i.toNat 0) + 2) (d2 + cost (q.getD k.toNat 0) (p.getD i.toNat 0)) := ⟨_, rfl⟩
            simp only [← hr'] at F9 N9 hi9 ⊢
            rw [← hit] at hinv
            k_steps
            · rename_i hlt _ F10 N10
              refine Stopped.mk ?_
              exact kst_end (_, ns2.set i.toNat r', (ns2.getD i.toNat 0, _), (r', _), (r', _)) F10 N10 (fun p hp => led_left hp) (fun p hp => led_right hp) rfl hi9 (by kst_all) (by intro z h1 h2 h3; simp only [List.forall_mem_cons, List.not_mem_nil, false_implies, implies_true, and_true, ne_eq] at h2; simp only [List.contains_cons, List.contains_nil, Bool.or_false, Bool.or_eq_false_iff, beq_eq_false_iff_ne, ne_eq] at h3; simp [kstB, h1, h2, h3])
                (by rw [List.length_append, List.length_singleton, ← hit]; exact hinv.next (by omega) hr' (by rw [if_pos hlt]))
            · rename_i hlt
              refine Stopped.mk ?_
              exact kst_end (_, ns2.set i.toNat r', (ns2.getD i.toNat 0, _), (r', _), (mn2, _)) F9 N9 (fun p hp => led_left hp) (fun p hp => led_right hp) rfl hi9 (by kst_all) (by intro z h1 h2 h3; simp only [List.forall_mem_cons, List.not_mem_nil, false_implies, implies_true, and_true, ne_eq] at h2; simp only [List.contains_cons, List.contains_nil, Bool.or_false, Bool.or_eq_false_iff, beq_eq_false_iff_ne, ne_eq] at h3; simp [kstB, h1, h2, h3])
                (by rw [List.length_append, List.length_singleton, ← hit]; exact hinv.next (by omega) hr' (by rw [if_neg hlt]))
end
end Mine
end

section
open PySem PySem.W PyProof.Rows PySem.Spec PySem.Calls
namespace Mine

theorem take_snoc {α : Type} {l : List α} {i : Nat} {a : α} (h : l[i]? = some a) : l.take (i + 1) = l.take i ++ [a] := by simp [List.take_add_one, h]
theorem zip_at {x y : List Nat} {i c d : Nat} (h1 : (S x).cps[i]? = some c) (h2 : (S y).cps[i]? = some d) : (x.zip y)[i]? = some (c, d) := by
  rw [List.getElem?_zip_eq_some]
  exact ⟨by simpa [S] using h1, by simpa [S] using h2⟩
theorem iEnd {ys : List Value} {l : List (Nat × Nat)} {i c d : Nat} {v : Int} {t : Tok} (hys : IntsAre ys ((l.take i).map fun p => cost p.1 p.2)) (hz : l[i]? = some (c, d)) (hc : cost c d = v) : IntsAre (ys ++ [.int v t]) ((l.take (i + 1)).map fun p => cost p.1 p.2) := by
  rw [take_snoc hz, List.map_append, List.map_singleton, hc]
  exact hys.append (.cons _ _ .nil)
theorem lenS_cps (x : List Nat) : (S x).cps.size = x.length := by simp [S]
theorem ne_S {c d : Nat} : (S [c] != S [d]) = (c != d) := by
  have h : (S [c] == S [d]) = (c == d) := by rw [S_beq]; by_cases h : c = d <;> simp [h]
  unfold bne; rw [h]
theorem filt_snoc {l : List (Nat × Nat)} {i : Nat} {p : Nat × Nat} (h : l[i]? = some p) : (l.take (i + 1)).filter (fun p => p.1 != p.2) = (l.take i).filter (fun p => p.1 != p.2) ++ (if p.1 != p.2 then [p] else []) := by
  rw [take_snoc h, List.filter_append]
  cases hb : (p.1 != p.2) with
  | true => simp [hb]
  | false => simp [hb]
theorem filt_pre {l : List (Nat × Nat)} {i : Nat} {p : Nat × Nat} {q : List (Nat × Nat)} (hq : l.filter (fun p => p.1 != p.2) = q) (h : l[i]? = some p) : ∃ r, (l.take i).filter (fun p => p.1 != p.2) ++ (if p.1 != p.2 then [p] else []) ++ r = q := by
  rw [← filt_snoc h]
  refine ⟨(l.drop (i + 1)).filter (fun p => p.1 != p.2), ?_⟩
  rw [← List.filter_append, List.take_append_drop, hq]
/-- the made list of unlike pairs -/
noncomputable def UnJ (news : List (Addr × Obj)) (f : List (Nat × Nat)) (ys : List Value) (nw : List (Addr × Obj)) : Prop :=
  (f = [] ∧ ys = [] ∧ news = nw) ∨ ∃ (c d : Nat) (a : Addr) (t u : Tok), f = [(c, d)] ∧ ys = [.ref a] ∧ nw = (a, listOf [Value.str (S [c]) t, Value.str (S [d]) u].toArray 0) :: news ∧ ∀ p ∈ news, p.1 ≠ a

section
variable {w : World} {mean : ExcName → Option Value} {mg mb : Str → Option Value} {news : List (Addr × Obj)}
  {dp un : Nat} {gd : Option (List Code)} {cn : Str} {cs : Scope} {a : Addr} {ccd : Value} {cl : List (Str × Addr)} {outer : List Env} {A₀ : Around} {base h₀ : Heap} {L : Addr} {m : Str → Option Value} {s : Shared} {Q E : Value → Shared → Prop}
set_option maxRecDepth 100000 in
set_option maxHeartbeats 40000000 in
theorem places_use {hS : Heap} {gS : Array GenState} {dS : Drawn} {tS : Nat} {oS : OsState} {x y : List Nat} {tx ty : Tok} (hxy : x.length = y.length) (hx : x.length ≤ 20) (B : Below A₀ base outer h₀) (F : Fr h₀ L hS m) (X : (hd.heap_39 w.params).In h₀) (N : News h₀ L hS news) (T : Top hd.view_39 (looseW hd.view_39 [Str.ofString "_filemode_table"]) mean mg mb h₀) (hk : cs.kind = .function)
    (hdp : dp + 1 < recursionLimit) (hun : un + 8 < cLine) (hret : ∀ (t : Tok) (h' : Heap) (tk' : Nat), Fr h₀ L h' m → News h₀ L h' news → Q (.int (((x.zip y).map fun p => cost p.1 p.2).sum) t) ⟨h', gS, dS, tk', oS⟩) :
    wpAny (model Challenge.rw_pe0142_01.row.prog w) (ktrTop dp un gd cn cs L a ccd cl outer) (call (.ref 99) [.str (S x) tx, .str (S y) ty]) Q E ⟨hS, gS, dS, tS, oS⟩ := by
  revert X
  k_fill
  w_top off
  k_with_none
  k_with "execs cons" => (((try clear qk); (try clear ek); (try k_fold); (with_reducible refine wpAny_execs_cons ?_); k_fold; (try dsimp only)))
  k_with "eval ListComp" => (((with_unfolding_all refine' ListComp_at ?kF ?k1 ?k2 ?k3 ?k4 ?_ ?k5; (case kF => assumption); (case k1 => rfl); (case k2 => decide); (case k3 => rfl); (case k4 => decide); (case k5 => exact fun _ => rfl); k_whole)))
  k_with "exec Assign cons ListComp" => (((with_unfolding_all refine' AssignLc_at ?kF ?k0 ?k1 ?k2 ?k3 ?k4 ?k5 ?k6 ?k7 ?_ ?k8; (case kF => assumption); (case k0 => rfl); (case k1 => rfl); (case k2 => rfl); (case k3 => decide); (case k4 => rfl); (case k5 => decide); (case k6 => rfl); (case k7 => rfl); (case k8 => exact fun _ => rfl); k_whole)))
  k_with "call type:zip" => ((refine stopped_of ?_))
  k_with "LcEnd" => ((refine stopped_of ?_))
  k_with "pyIter ref" => ((refine stopped_of ?_))
  k_with "call ref" => (((with_reducible show wpAny _ _ (call (Value.ref 28) _) _ _ _); k_dflt (refine' lev_use ?a1 ?a2 ?a3 ?k1 ?k2 ?k3 ?k4 ?k5 ?kK ?kd ?ku ?_; (case a1 => omega); (case a2 => omega); (case a3 => exact ⟨by omega, by omega⟩); (case k1 => k_asm); (case k2 => k_asm); (case k3 => k_asm); (case k4 => k_asm); (case k5 => k_asm); (case kK => exact rfl); (case kd => ktr_room); (case ku => ktr_units)); intro _ _ _ _ _))
  k_with "call ref" => (((with_reducible show wpAny _ _ (call (Value.ref 21) _) _ _ _); k_dflt (refine' subst_use ?k1 ?k2 ?k3 ?k4 ?k5 ?kK ?kd ?ku ?_; (case k1 => k_asm); (case k2 => k_asm); (case k3 => k_asm); (case k4 => k_asm); (case k5 => k_asm); (case kK => exact rfl); (case kd => ktr_room); (case ku => ktr_units)); intro _ _ _ _ _))
  intro X
  refine wpAny_call ?_
  k_dflt cell_enter
  k_steps
  refine Stopped.mk ?_
  rename Fr _ _ _ _ => F1
  rename News _ _ _ _ => N1
  refine lcZipS rfl F1 N1 (by rw [lenS_cps, lenS_cps]; exact hxy) ?_
  intro I hI fp wr Md St XS F2 N2
  refine LcAt.go (fun i ys nw => news = nw ∧ IntsAre ys (((x.zip y).take i).map fun p => cost p.1 p.2)) (by rw [lenS_cps, sizeLine_eq]; omega) XS F2 N2 (⟨rfl, .nil⟩) ?_ ?_
  · intro i v ys news₁ own C oC D m₂ h tk E' hi hP hJ O off offO hCD hC F N
    k_fold
    obtain ⟨rfl, hys⟩ := hJ
    obtain ⟨T0, a9, b9, rfl, ⟨⟨c1, u1, hc1, rfl⟩, ⟨c2, u2, hc2, rfl⟩⟩, hT⟩ := hP
    have hz := zip_at hc1 hc2
    refine asg_pair rfl F N hC (offC off offO hCD) hT rfl rfl rfl (by decide) ?_
    clear F N hC
    intro h3 tk3 oC' m₃ F hC hx1 hx2 N
    try k_unfold
    have hl1 : (⟨#[c1]⟩ : Str).length ≤ 1 := Nat.le_refl _
    have hl2 : (⟨#[c2]⟩ : Str).length ≤ 1 := Nat.le_refl _
    dsimp only [LcBody]
    k_sweep
    k_steps
    · rename_i h0
      refine Stopped.mk ?_
      exact LcEnd.mk news F N hC (fun p hp => hp) off ⟨rfl, iEnd hys hz (by unfold cost subC; exact if_pos (by simpa [S] using h0))⟩
    · refine Stopped.mk ?_
      have h0 : ((⟨#[c1]⟩ : Str) == ⟨#[c2]⟩) = false := by assumption
      have h1 : (Txt.lower ⟨#[c1]⟩ == Txt.lower ⟨#[c2]⟩) = true := by assumption
      exact LcEnd.mk news (by k_asm) (by k_asm) hC (fun p hp => hp) off ⟨rfl, iEnd hys hz (by unfold cost subC S; rw [if_neg (by simpa using h0), if_pos (by simpa using h1)])⟩
    · refine Stopped.mk ?_
      have h0 : ((⟨#[c1]⟩ : Str) == ⟨#[c2]⟩) = false := by assumption
      have h1 : (Txt.lower ⟨#[c1]⟩ == Txt.lower ⟨#[c2]⟩) = false := by assumption
      exact LcEnd.mk news (by k_asm) (by k_asm) hC (fun p hp => hp) off ⟨rfl, iEnd hys hz (by unfold cost subC S; rw [if_neg (by simpa using h0), if_neg (by simpa using h1)])⟩
  · intro D ys news' h tk hJ F N hoff
    obtain ⟨rfl, hys⟩ := hJ
    dsimp only at F N
    rw [lenS_cps, List.take_of_length_le (by rw [List.length_zip]; omega)] at hys
    k_sweep
    k_steps
    exact cb_retI (s := ⟨hS, gS, dS, tS, oS⟩) hret rfl (by k_asm) (News.tail' (by k_asm))
set_option maxRecDepth 100000 in
set_option maxHeartbeats 40000000 in
theorem step_use {hS : Heap} {gS : Array GenState} {dS : Drawn} {tS : Nat} {oS : OsState} {x y : List Nat} {tx ty : Tok} {c d : Nat} (hxy : x.length = y.length) (hx : x.length ≤ 20) (hf : (x.zip y).filter (fun p => p.1 != p.2) = [(c, d)]) (hlv : levF x y 99 = cost c d) (hl2 : levF y x 0 = 1)
    (B : Below A₀ base outer h₀) (F : Fr h₀ L hS m) (X : (hd.heap_39 w.params).In h₀) (N : News h₀ L hS news) (T : Top hd.view_39 (looseW hd.view_39 [Str.ofString "_filemode_table"]) mean mg mb h₀) (hk : cs.kind = .function)
    (hdp : dp + 4 < recursionLimit) (hun : un + 100 < cLine) (hret : ∀ (t : Tok) (h' : Heap) (tk' : Nat), Fr h₀ L h' m → News h₀ L h' news → Q (.int (cost c d) t) ⟨h', gS, dS, tk', oS⟩) :
    wpAny (model Challenge.rw_pe0142_01.row.prog w) (ktrTop dp un gd cn cs L a ccd cl outer) (call (.ref 104) [.str (S x) tx, .str (S y) ty]) Q E ⟨hS, gS, dS, tS, oS⟩ := by
  revert X
  k_fill
  w_top off
  k_with_none
  k_with "execs cons" => (((try clear qk); (try clear ek); (try k_fold); (with_reducible refine wpAny_execs_cons ?_); k_fold; (try dsimp only)))
  k_with "eval ListComp" => (((with_unfolding_all refine' ListComp_at ?kF ?k1 ?k2 ?k3 ?k4 ?_ ?k5; (case kF => assumption); (case k1 => rfl); (case k2 => decide); (case k3 => rfl); (case k4 => decide); (case k5 => exact fun _ => rfl); k_whole)))
  k_with "exec Assign cons ListComp" => (((with_unfolding_all refine' AssignLc_at ?kF ?k0 ?k1 ?k2 ?k3 ?k4 ?k5 ?k6 ?k7 ?_ ?k8; (case kF => assumption); (case k0 => rfl); (case k1 => rfl); (case k2 => rfl); (case k3 => decide); (case k4 => rfl); (case k5 => decide); (case k6 => rfl); (case k7 => rfl); (case k8 => exact fun _ => rfl); k_whole)))
  k_with "call type:zip" => ((refine stopped_of ?_))
  k_with "LcEnd" => ((refine stopped_of ?_))
  k_with "pyIter ref" => ((refine stopped_of ?_))
  k_with "call ref" => (((with_reducible show wpAny _ _ (call (Value.ref 28) _) _ _ _); k_dflt (refine' lev_use ?a1 ?a2 ?a3 ?k1 ?k2 ?k3 ?k4 ?k5 ?kK ?kd ?ku ?_; (case a1 => omega); (case a2 => omega); (case a3 => exact ⟨by omega, by omega⟩); (case k1 => k_asm); (case k2 => k_asm); (case k3 => k_asm); (case k4 => k_asm); (case k5 => k_asm); (case kK => exact rfl); (case kd => ktr_room); (case ku => ktr_units)); intro _ _ _ _ _))
  k_with "call ref" => (((with_reducible show wpAny _ _ (call (Value.ref 21) _) _ _ _); k_dflt (refine' subst_use ?k1 ?k2 ?k3 ?k4 ?k5 ?kK ?kd ?ku ?_; (case k1 => k_asm); (case k2 => k_asm); (case k3 => k_asm); (case k4 => k_asm); (case k5 => k_asm); (case kK => exact rfl); (case kd => ktr_room); (case ku => ktr_units)); intro _ _ _ _ _))
  intro X
  refine wpAny_call ?_
  k_dflt cell_enter
  k_steps
  refine Stopped.mk ?_
  rename Fr _ _ _ _ => F1
  rename News _ _ _ _ => N1
  refine lcZipS rfl F1 N1 (by rw [lenS_cps, lenS_cps]; exact hxy) ?_
  intro I hI fp wr Md St XS F2 N2
  refine LcAt.go (fun i ys nw => UnJ news (((x.zip y).take i).filter fun p => p.1 != p.2) ys nw) (by rw [lenS_cps, sizeLine_eq]; omega) XS F2 N2 (.inl ⟨rfl, rfl, rfl⟩) ?_ ?_
  · intro i v ys news₁ own C oC D m₂ h tk E' hi hP hJ O off offO hCD hC F N
    k_fold
    obtain ⟨T0, a9, b9, rfl, ⟨⟨c1, u1, hc1, rfl⟩, ⟨c2, u2, hc2, rfl⟩⟩, hT⟩ := hP
    have hz := zip_at hc1 hc2
    obtain ⟨r9, hr9⟩ := filt_pre hf hz
    refine asg_pair rfl F N hC (offC off offO hCD) hT rfl rfl rfl (by decide) ?_
    clear F N hC
    intro h3 tk3 oC' m₃ F hC hx1 hx2 N
    try k_unfold
    replace hx1 : m₃ (Str.ofString "j") = some (.str (S [c1]) u1) := hx1
    replace hx2 : m₃ (Str.ofString "k") = some (.str (S [c2]) u2) := hx2
    dsimp only [LcBody]
    k_sweep
    rcases hJ with ⟨hJ1, rfl, rfl⟩ | ⟨c', d', a', t', u', hJ1, rfl, rfl, hJ2⟩
    · k_steps
      · refine Stopped.mk ?_
        rename_i hne l4 h4 F4 N4 l1
        rw [ne_S] at hne
        have hlt := kst_ltOf l1.2.2
        refine LcEnd.mk ((l4, listOf [Value.str (S [c1]) u1, Value.str (S [c2]) u2].toArray 0) :: news) F4 N4 hC (fun p hp => ?_) (fun p hp => ?_) (.inr ⟨c1, c2, l4, u1, u2, ?_, rfl, rfl, fun p hp => Nat.ne_of_lt (hlt p (List.mem_append_left _ hp))⟩)
        · revert p; exact (all_cons (.tail _ (.head _)) (all_cons (.tail _ (.tail _ (.head _))) (all_cons (.head _) (fun p hp => (.tail _ (.tail _ (.tail _ hp)))))))
        · revert p; exact (all_cons (by
              refine ⟨fun hw => ?_, Nat.ne_of_gt l1.1, Nat.ne_of_gt l1.2.1⟩
              obtain ⟨o, ho⟩ := O.has _ hw
              exact Nat.lt_irrefl _ (hlt _ (List.mem_append_right _ ho))) (fun p hp => (off p hp)))
        · rw [filt_snoc hz, hJ1]
          simp [hne]
      · refine Stopped.mk ?_
        rename_i hne
        rw [ne_S] at hne
        exact LcEnd.mk news F N hC (fun p hp => hp) off (.inl ⟨by rw [filt_snoc hz, hJ1]; simp [hne], rfl, rfl⟩)
    · k_steps
      · refine Stopped.mk ?_
        rename_i hne l4 h4 F4 N4 l1
        rw [ne_S] at hne
        rw [hJ1] at hr9
        simp [hne] at hr9
      · refine Stopped.mk ?_
        rename_i hne
        rw [ne_S] at hne
        exact LcEnd.mk _ F N hC (fun p hp => hp) off (.inr ⟨c', d', a', t', u', by rw [filt_snoc hz, hJ1]; simp [hne], rfl, rfl, hJ2⟩)
  · intro D ys news' h tk hJ F N hoff
    rw [lenS_cps, List.take_of_length_le (by rw [List.length_zip]; omega), hf] at hJ
    rcases hJ with ⟨hJ1, _, _⟩ | ⟨c', d', a', t', u', hJ1, rfl, rfl, hJ2⟩
    · simp at hJ1
    obtain ⟨rfl, rfl⟩ : c = c' ∧ d = d' := by simpa using hJ1
    clear hJ1
    dsimp only at F N
    k_sweep
    k_steps
    refine Stopped.mk ?_
    rename Fr _ _ _ _ => F6
    rename News _ _ _ _ => N6
    refine lcList (vs := [.ref a']) (c := 1) rfl F6 N6 (.head _) ?_
    intro I2 hI2 fp2 wr2 Md2 St2 XS2 F7 N7
    refine LcAt.go (fun i ys nw => (D, LCg.lst [.ref a']) :: (a', W.listOf [Value.str (S [c]) t', Value.str (S [d]) u'].toArray 0) :: news = nw ∧ IntsAre ys ([cost c d].take i)) (Nat.le_of_ble_eq_true rfl) XS2 F7 N7 (⟨rfl, .nil⟩) ?_ ?_
    · intro i v ys news₁ own C oC D2 m₂ h tk E' hi hP hJ O off offO hCD hC F N
      k_fold
      obtain ⟨rfl, hys⟩ := hJ
      obtain rfl : i = 0 := by simpa using hi
      obtain rfl : v = .ref a' := by simpa using hP.symm
      refine asg_pairL rfl F N hC (offC off offO hCD) ⟨_, (N _ (.tail _ (.tail _ (.tail _ (.head _))))).1, rfl, _, rfl⟩ rfl rfl rfl (by decide) ?_
      clear F N hC
      intro h3 tk3 oC' m₃ F hC hx1 hx2 N
      try k_unfold
      dsimp only [LcBody]
      k_sweep
      k_steps
      refine Stopped.mk ?_
      rename Fr _ _ _ _ => F8
      rename News _ _ _ _ => N8
      refine LcEnd.mk _ F8 N8 hC (fun p hp => hp) off ⟨rfl, ?_⟩
      exact hys.append (.cons _ _ .nil)
    · intro D2 ys nw h tk hJ F N hoff2
      obtain ⟨rfl, hys⟩ := hJ
      have hys' : IntsAre ys [cost c d] := hys
      obtain ⟨t7, vs7, rfl, h7⟩ := hys'.cons_inv
      obtain rfl := h7.nil_inv
      clear hys hys' h7
      dsimp only at F N
      rw [hlv] at F
      k_sweep
      k_steps
      all_goals first
        | exact absurd hl2 (by assumption)
        | (rename Fr _ _ _ _ => kF
           rename News _ _ _ _ => kN
           exact cb_retI (s := ⟨hS, gS, dS, tS, oS⟩) hret rfl kF (fun p hp => kN p (.tail _ (.tail _ (.tail _ (.tail _ hp))))))
end
end Mine
end

section
open PySem PySem.W PyProof.Rows PySem.Spec PySem.Calls
namespace Mine
noncomputable def sgSt : List Str := [Str.ofString "k", Str.ofString "bit", Str.ofString "set_bit"]
theorem kind_item {M : Nat} (hM : M < 65536) : Txt.item (Str.ofString "?pc?d?b?-?l?s???") ((M : Int).fdiv 4096) = S (sgPre M 0) := by
  have e : Str.ofString "?pc?d?b?-?l?s???" = S [63, 112, 99, 63, 100, 63, 98, 63, 45, 63, 108, 63, 115, 63, 63, 63] := by decide +kernel
  have e2 : (M : Int).fdiv 4096 = ((M / 4096 : Nat) : Int) := by rw [Int.fdiv_eq_ediv_of_nonneg _ (by decide)]; rfl
  rw [e, e2, item_nonneg _ _ (by omega) (by simp; omega)]
  rfl
theorem bit_cast (M d : Nat) : ((M : Int).fdiv d).fmod 2 = ((M / d % 2 : Nat) : Int) := by
  rw [Int.fdiv_eq_ediv_of_nonneg _ (by omega), Int.fmod_eq_emod_of_nonneg _ (by decide)]; rfl
theorem sg_end {m' m₀ : Str → Option Value} {txt : List Nat} (t : Tok) (h : m' (Str.ofString "text") = some (.str (S txt) t)) (h2 : ∀ z, sgSt.contains z = false → z ≠ Str.ofString "text" → m' z = m₀ z) :
    ∃ (t : Tok) (u : Str → Option Value), m' = fun z => if sgSt.contains z = true then u z else if z = Str.ofString "text" then some (.str (S txt) t) else m₀ z := by
  refine ⟨t, stored_ex fun z hz => ?_⟩
  by_cases e : z = Str.ofString "text"
  · rw [if_pos e, e]; exact h
  · rw [if_neg e]; exact h2 z hz e
theorem bit_at {M n k : Nat} (h : n = k) : ((M / 2 ^ n % 2 : Nat) : Int) = (bitOf M k : Int) := by subst h; rfl
section
variable {w : World} {mean : ExcName → Option Value} {mg mb : Str → Option Value} {news : List (Addr × Obj)}
  {dp un : Nat} {gd : Option (List Code)} {cn : Str} {cs : Scope} {a : Addr} {ccd : Value} {cl : List (Str × Addr)} {outer : List Env} {A₀ : Around} {base h₀ : Heap} {L : Addr} {m : Str → Option Value} {s : Shared} {Q E : Value → Shared → Prop}
set_option maxRecDepth 100000 in
set_option maxHeartbeats 40000000 in
theorem signs_use {hS : Heap} {gS : Array GenState} {dS : Drawn} {tS : Nat} {oS : OsState} {M : Nat} {tx : Tok} (hM : M < 65536) (B : Below A₀ base outer h₀) (F : Fr h₀ L hS m) (X : (hd.heap_39 w.params).In h₀) (N : News h₀ L hS news) (T : Top hd.view_39 (looseW hd.view_39 [Str.ofString "_filemode_table"]) mean mg mb h₀) (hk : cs.kind = .function)
    (hdp : dp + 1 < recursionLimit) (hun : un + 8 < cLine) (hret : ∀ (t : Tok) (h' : Heap) (tk' : Nat), Fr h₀ L h' m → News h₀ L h' news → Q (.str (S (sgChars M)) t) ⟨h', gS, dS, tk', oS⟩) :
    wpAny (model Challenge.rw_pe0142_01.row.prog w) (ktrTop dp un gd cn cs L a ccd cl outer) (call (.ref 89) [.int M tx]) Q E ⟨hS, gS, dS, tS, oS⟩ := by
  revert X
  k_fill
  w_top off
  k_with_none
  k_with "execs cons" => (((try k_gentoks); (try clear qk); (try clear ek); (try k_fold); (with_reducible refine wpAny_execs_cons ?_); k_fold; (try dsimp only)))
  k_with "subscriptTail Constant BinOp str int" => ((refine stopped_of ?_))
  k_with "exec For Name Call cons nil" => (((with_unfolding_all refine' For_at ?kF ?_ ?k1 ?k2; (case kF => assumption); (case k1 => exact fun _ => rfl); (case k2 => passes_own); k_whole)))
  k_with "pyIter ref" => ((refine stopped_of ?_))
  k_with "TurnPost" => ((refine stopped_of ?_))
  k_with "execs cons" => (((with_reducible show wpAny _ _ (execs (Stmt.Assign [Expr.Tuple _ _ _] _ _ :: _) _) _ _ _); refine stopped_of ?_))
  k_with "Lays" => ((refine stopped_of ?_))
  k_with "binaryOp Pow int int" => ((refine pow_two (by omega) ?_; intro _))
  k_with "binaryOp FloorDiv int int" => (first | (with_reducible refine fdiv_3 ?_; intro _) | (with_reducible refine fdiv_pow (by omega) ?_; intro _))
  k_with "binaryOp Mod int int" => (first | (with_reducible refine fmod_2 ?_; intro _) | (with_reducible refine fmod_3 ?_; intro _))
  k_with "subscriptTail List BinOp ref int" => ((refine stopped_of ?_))
  k_with "subscriptTail Subscript Name str int" => ((refine stopped_of ?_))
  k_with "subscriptTail Name Name str int" => ((refine stopped_of ?_))
  k_with "binaryOp Add str str" => ((refine add_S (by simp only [sgPre_length, List.length_cons, List.length_nil]; omega) ?_; intro _ _))
  intro X
  refine wpAny_call ?_
  k_dflt cell_enter
  rename_i g L1 h1 FG F1 N1 B1 X1 T1
  replace F1 : Fr g L1 h1 (upd (fun _ => none) (Str.ofString "mode") (.int M tx)) := by
    refine fr_eq F1 ?_
    refine Eq.trans (b := fun y' => List.lookup y' [(Str.ofString "mode", .int M tx)]) (by rfl) ?_
    rw [lookup_upd, lookup_nil]
  k_steps
  refine Stopped.mk ?_
  rename IsRange _ _ _ _ _ _ _ _ => R2
  rename Fr _ _ _ _ => F2
  rename News _ _ _ _ => N2
  rw [kind_item hM] at F2
  obtain ⟨t0, F3⟩ : ∃ t0, Fr g L1 _ (fun y => if y = Str.ofString "text" then some (.str (S (sgPre M 0)) t0) else upd (fun _ => none) (Str.ofString "mode") (.int M tx) y) := ⟨_, F2⟩
  clear F2
  refine forRange (n := 9) rfl F3 N2 R2 (by decide) (by rfl) ?_
  intro I hI fp wr Md St XS F4 N4
  refine ForAt.go (fun i m₁ nw => news = nw ∧ ∃ (t : Tok) (u : Str → Option Value), m₁ = fun z => if sgSt.contains z = true then u z else if z = Str.ofString "text" then some (.str (S (sgPre M i)) t) else upd (fun _ => none) (Str.ofString "mode") (.int M tx) z) XS F4 N4 (⟨rfl, t0, _, (by funext z; exact (ite_self _).symm)⟩) ?_ ?_
  · intro i v m₁ news₁ h₁ tk₁ own hi hP9 hJ9 hoff O F N
    k_fold
    obtain ⟨t9, rfl⟩ := hP9
    obtain ⟨rfl, t1, u, rfl⟩ := hJ9
    unfold sgSt at F
    have hoff0 := hoff
    clear hoff O
    rw [Int.zero_add]
    have hi9 : i < 9 := hi
    k_sweep
    k_steps
    refine Stopped.mk ?_
    rename Fr _ _ _ _ => F5
    rename News _ _ _ _ => N5
    clear F N
    refine cut_lay (τ := Tok × Tok) (fun t' => upd (upd (fun z => if z = Str.ofString "k" then some (.int i t9) else if [Str.ofString "k", Str.ofString "bit", Str.ofString "set_bit"].contains z = true then u z else if z = Str.ofString "text" then some (.str (S (sgPre M i)) t1) else upd (fun _ => none) (Str.ofString "mode") (.int M tx) z) (Str.ofString "bit") (.int (bitOf M (8 - i)) t'.1)) (Str.ofString "set_bit") (.int (bitOf M (11 - i / 3)) t'.2)) F5 N5 ?_ ?_
    · k_steps
      refine Stopped.mk ?_
      rename Fr _ _ _ _ => F6
      rename News _ _ _ _ => N6
      have e1 : ((M / 2 ^ ((8 : Int) - (i : Int)).toNat % 2 : Nat) : Int) = (bitOf M (8 - i) : Int) := bit_at (by omega)
      have e2 : ((M / 2 ^ ((11 : Int) - ((i / 3 : Nat) : Int)).toNat % 2 : Nat) : Int) = (bitOf M (11 - i / 3) : Int) := bit_at (by omega)
      rw [e1, e2] at F6
      obtain ⟨ta, tb, F7⟩ : ∃ ta tb, Fr g L1 _ (fun z => if z = Str.ofString "bit" then some (.int (bitOf M (8 - i)) ta) else if z = Str.ofString "set_bit" then some (.int (bitOf M (11 - i / 3)) tb) else if z = Str.ofString "k" then some (.int i t9) else if [Str.ofString "k", Str.ofString "bit", Str.ofString "set_bit"].contains z = true then u z else if z = Str.ofString "text" then some (.str (S (sgPre M i)) t1) else upd (fun _ => none) (Str.ofString "mode") (.int M tx) z) := ⟨_, _, F6⟩
      refine Lays.mk (ta, tb) F7 (fun p hp => N6 p (.tail _ hp)) ?_
      funext z
      by_cases h1 : z = Str.ofString "bit"
      · subst h1; rfl
      by_cases h2 : z = Str.ofString "set_bit"
      · subst h2; rfl
      simp [upd, h1, h2]
    · clear F5 N5
      intro t' h tk F N
      have hs := sgPre_succ M i
      k_sweep
      k_steps
      · refine Stopped.mk ?_
        rename Fr _ _ _ _ => F4
        rename News _ _ _ _ => N4
        obtain ⟨tk3, hx3⟩ : ∃ tk3, [Value.str (Str.ofString "Ss") tk, Value.str (Str.ofString "Ss") (tk + 1), Value.str (Str.ofString "Tt") (tk + 1 + 1)][((i / 3 : Nat) : Int).toNat]? = some (.str (S ([[83, 115], [83, 115], [84, 116]].getD (i / 3) [])) tk3) := by
          have hi3 : i / 3 = 0 ∨ i / 3 = 1 ∨ i / 3 = 2 := by omega
          rcases hi3 with h | h | h <;> rw [h]
          · exact ⟨_, by rw [show Str.ofString "Ss" = S [83, 115] from by decide +kernel]; rfl⟩
          · exact ⟨_, by rw [show Str.ofString "Ss" = S [83, 115] from by decide +kernel]; rfl⟩
          · exact ⟨_, by rw [show Str.ofString "Tt" = S [84, 116] from by decide +kernel]; rfl⟩
        have hl2 : ([[83, 115], [83, 115], [84, 116]].getD (i / 3) []).length = 2 := by
          have hi3 : i / 3 = 0 ∨ i / 3 = 1 ∨ i / 3 = 2 := by omega
          rcases hi3 with h | h | h <;> rw [h] <;> rfl
        have hb1 := bitOf_01 M (8 - i)
        refine item_litK (vs := [Value.str (Str.ofString "Ss") tk, Value.str (Str.ofString "Ss") (tk + 1), Value.str (Str.ofString "Tt") (tk + 1 + 1)]) ⟨_, (N4 _ (.head _)).1, rfl, _, rfl⟩ (by omega) (by omega) hx3 ?_
        have hc : sgSign M i = ([[83, 115], [83, 115], [84, 116]].getD (i / 3) []).getD (bitOf M (8 - i)) 0 := by
          unfold sgSign; rw [if_pos ⟨by omega, by omega⟩]
        generalize [[83, 115], [83, 115], [84, 116]].getD (i / 3) [] = l2 at *
        generalize hb : bitOf M (8 - i) = b at *
        clear hx3
        k_steps
        refine Stopped.mk ?_
        refine itemS_at (by rw [hl2]; omega) (by omega) ?_
        intro t7
        rw [Int.toNat_natCast, ← hc]
        k_steps
        refine Stopped.mk ?_
        rename Fr _ _ _ _ => F8
        rename News _ _ _ _ => N8
        rw [← hs] at F8
        refine TurnPost.next news F8 N8 (fun p hp => by first | exact hp | exact .tail _ hp) hoff0 ⟨rfl, sg_end _ rfl fun z hz hz2 => ?_⟩
        simp only [sgSt, List.contains_cons, List.contains_nil, Bool.or_false, Bool.or_eq_false_iff, beq_eq_false_iff_ne, ne_eq] at hz
        obtain ⟨z1, z2, z3⟩ := hz
        simp [upd, z1, z2, z3, hz2]
      · refine Stopped.mk ?_
        have hb1 := bitOf_01 M (8 - i)
        have hc : sgSign M i = [45, 114, 119, 120].getD ((i % 3 + 1) * bitOf M (8 - i)) 0 := by
          unfold sgSign; rw [if_neg (by omega)]
        generalize hb : bitOf M (8 - i) = b at *
        rw [show Str.ofString "-rwx" = S [45, 114, 119, 120] from by decide +kernel]
        have hm3 : (((i % 3 : Nat) : Int) + 1) * (b : Int) = (((i % 3 + 1) * b : Nat) : Int) := by push_cast; rfl
        rw [hm3]
        have hlt : (i % 3 + 1) * b < 4 := by rcases hb1 with rfl | rfl <;> omega
        refine itemS_at (by simp only [List.length_cons, List.length_nil]; omega) (by decide) ?_
        intro t7
        rw [Int.toNat_natCast, ← hc]
        k_steps
        refine Stopped.mk ?_
        rename Fr _ _ _ _ => F8
        rename News _ _ _ _ => N8
        rw [← hs] at F8
        refine TurnPost.next news F8 N8 (fun p hp => by first | exact hp | exact .tail _ hp) hoff0 ⟨rfl, sg_end _ rfl fun z hz hz2 => ?_⟩
        simp only [sgSt, List.contains_cons, List.contains_nil, Bool.or_false, Bool.or_eq_false_iff, beq_eq_false_iff_ne, ne_eq] at hz
        obtain ⟨z1, z2, z3⟩ := hz
        simp [upd, z1, z2, z3, hz2]
      · refine Stopped.mk ?_
        have hb1 := bitOf_01 M (8 - i)
        have hc : sgSign M i = [45, 114, 119, 120].getD ((i % 3 + 1) * bitOf M (8 - i)) 0 := by
          unfold sgSign; rw [if_neg (by omega)]
        generalize hb : bitOf M (8 - i) = b at *
        rw [show Str.ofString "-rwx" = S [45, 114, 119, 120] from by decide +kernel]
        have hm3 : (((i % 3 : Nat) : Int) + 1) * (b : Int) = (((i % 3 + 1) * b : Nat) : Int) := by push_cast; rfl
        rw [hm3]
        have hlt : (i % 3 + 1) * b < 4 := by rcases hb1 with rfl | rfl <;> omega
        refine itemS_at (by simp only [List.length_cons, List.length_nil]; omega) (by decide) ?_
        intro t7
        rw [Int.toNat_natCast, ← hc]
        k_steps
        refine Stopped.mk ?_
        rename Fr _ _ _ _ => F8
        rename News _ _ _ _ => N8
        rw [← hs] at F8
        refine TurnPost.next news F8 N8 (fun p hp => by first | exact hp | exact .tail _ hp) hoff0 ⟨rfl, sg_end _ rfl fun z hz hz2 => ?_⟩
        simp only [sgSt, List.contains_cons, List.contains_nil, Bool.or_false, Bool.or_eq_false_iff, beq_eq_false_iff_ne, ne_eq] at hz
        obtain ⟨z1, z2, z3⟩ := hz
        simp [upd, z1, z2, z3, hz2]
  · rintro h₉ tk₉ m₁ news₁ F N ⟨rfl, t1, u, rfl⟩
    unfold sgSt at F
    k_sweep
    k_steps
    exact cb_retS (s := ⟨hS, gS, dS, tS, oS⟩) hret rfl (by k_asm) (by k_asm)
end
end Mine
end

section
namespace Mine
open PySem PySem.W PyProof.Rows PySem.Spec PySem.Calls PyProof.Rows.LCg
abbrev cellObj : Obj := { cls := .type "cell", data := .cell none }
/-- one turn of a comprehension behind its name's setting: what is run, what must hold behind it -/
abbrev BodyT := Env → Value → (Shared → Prop) → (Value → Shared → Prop) → Shared → Prop
section
variable {prog : Program} {w : World} {A : Around} {E : Value → Shared → Prop} {s : Shared} {env : Env} {h₀ : Heap} {L : Addr} {target : Expr} {I : Addr} {fp wr ex : List Addr} {n : Nat} {P Md : Nat → Value → Heap → Prop} {St : Nat → Heap → Prop} {m : Str → Option Value} {news : List (Addr × Obj)}
theorem newEnvX {scope : Scope} {cl : List (Str × Addr)} {x : Str} {Q : Env → Shared → Prop} (hkind : scope.kind = .function) (hcf : ∀ n acc, acc = cl → cellsFrom n scope.names acc = (x, n) :: cl) (hpc : ∀ h, pushCells h scope.names = h.push cellObj)
    (h : Q { scope := scope, locals := s.heap.objs.size, globals := env.globals, cells := (x, s.heap.objs.size + 1) :: cl, qual := env.qual, func := none, code := env.code, frame := env.frame, builtins := env.builtins }
      { s with heap := (s.heap.push { cls := .type "dict", data := .dict #[] }).push cellObj }) :
    wpAny (model prog w) A (newFunctionEnv scope env.globals cl [] env.qual none .none (some env)) Q E s := by
  simp only [newFunctionEnv, Option.isSome_some, if_true]
  refine wpAny_bind (wpAny_alloc ?_)
  refine wpAny_bind (wpAny_layCells _ (fun name kind cells => by cases hkc : kind == NameKind.cell <;> simp [hkc]) _ _ _ _ ?_)
  have e : ({ s with heap := s.heap.push { cls := .type "dict", data := .dict #[] } } : Shared).heap.objs.size = s.heap.objs.size + 1 := Heap.size_push ..
  rw [e, hcf _ _ rfl, hpc]
  exact wpAny_bind (wpAny_pure (wpAny_pure h))

/-- a turn's end: the list may have grown -/
inductive LcxEnd (h₀ : Heap) (L : Addr) (m : Str → Option Value) (C X D : Addr) (own : List (Addr × Obj)) (wr : List Addr) (K : List Value → List (Addr × Obj) → Prop) (s₁ s₂ : Shared) : Prop
  | intro (h' : Heap) (tk : Nat) (oC oX : Obj) (m₂ : Str → Option Value) (u : Option Value) (ys' : List Value) (news' : List (Addr × Obj)) (e : s₂ = { s₁ with heap := h', toks := tk }) (F : Fr h₀ L h' m) (hC : NsObj oC m₂) (hX : oX.data = .cell u) (N : News h₀ L h' ((C, oC) :: (X, oX) :: (D, lst ys') :: (news' ++ own))) (off : ∀ p ∈ news', p.1 ∉ wr ∧ p.1 ≠ C ∧ p.1 ≠ X ∧ p.1 ≠ D) (k : K ys' news')
inductive LcxEl (h₀ : Heap) (L : Addr) (m : Str → Option Value) (C X D : Addr) (own : List (Addr × Obj)) (wr : List Addr) (K : List (Addr × Obj) → Prop) (ys : List Value) (s₁ s₂ : Shared) : Prop
  | intro (h' : Heap) (tk : Nat) (oC oX : Obj) (m₂ : Str → Option Value) (u : Option Value) (news' : List (Addr × Obj)) (e : s₂ = { s₁ with heap := h', toks := tk }) (F : Fr h₀ L h' m) (hC : NsObj oC m₂) (hX : oX.data = .cell u) (N : News h₀ L h' ((C, oC) :: (X, oX) :: (D, lst ys) :: (news' ++ own))) (off : ∀ p ∈ news', p.1 ∉ wr ∧ p.1 ≠ C ∧ p.1 ≠ X ∧ p.1 ≠ D) (k : K news')
inductive LcxInv (h₀ : Heap) (L C D : Addr) (m : Str → Option Value) (wr : List Addr) (n : Nat) (St : Nat → Heap → Prop) (J : Nat → List Value → List (Addr × Obj) → Prop) (s : Shared) (k : Nat) (s' : Shared) : Prop
  | intro (h' : Heap) (tk i : Nat) (ys : List Value) (m' : Str → Option Value) (u : Option Value) (oX : Obj) (news' : List (Addr × Obj)) (e : s' = { s with heap := h', toks := tk }) (hi : i ≤ n) (hk : k = n + 1 - i) (st : St i h') (F : Fr h₀ L h' m) (hn : h'.Ns C m') (hX : oX.data = .cell u) (N : News h₀ L h' ((C + 1, oX) :: (D, lst ys) :: news')) (off : ∀ p ∈ news', p.1 ∉ wr ∧ p.1 ≠ C ∧ p.1 ≠ C + 1 ∧ p.1 ≠ D) (j : J i ys news')
noncomputable def LcxTurn (BODY : BodyT) (x : Str) (scope : Scope) (cl : List (Str × Addr)) (env : Env) (h₀ : Heap) (L : Addr) (m : Str → Option Value) (n : Nat) (P : Nat → Value → Heap → Prop) (fp wr ex : List Addr) (J : Nat → List Value → List (Addr × Obj) → Prop) (g : Array GenState) (d : Drawn) (o : OsState) : Prop :=
  ∀ (i : Nat) (v : Value) (ys : List Value) (news₁ own : List (Addr × Obj)) (C X : Addr) (oC oX : Obj) (D : Addr) (m₂ : Str → Option Value) (h : Heap) (tk : Nat) (E' : Value → Shared → Prop), i < n → P i v h → J i ys news₁ → Own h₀ h fp wr ex own →
    (∀ p ∈ news₁, p.1 ∉ wr ∧ p.1 ≠ C ∧ p.1 ≠ X ∧ p.1 ≠ D) → (∀ p ∈ own, p.1 ≠ C ∧ p.1 ≠ X ∧ p.1 ≠ D) → C ≠ X → C ≠ D → X ≠ D → NsObj oC m₂ → oX.data = .cell (some v) → Fr h₀ L h m → News h₀ L h ((C, oC) :: (X, oX) :: (D, lst ys) :: (news₁ ++ own)) →
    BODY (compEnvC scope ((x, X) :: cl) C env) (.ref D) (fun s₄ => LcxEnd h₀ L m C X D own wr (J (i + 1)) ⟨h, g, d, tk, o⟩ s₄) E' ⟨h, g, d, tk, o⟩

theorem lcx_block {elt iter : Expr} {x : Str} {px : Pos} {ifs : List Expr} {rest : List Comprehension} {scope : Scope} {cl : List (Str × Addr)} {pos : Pos} {s₂ : Shared} {RR : Value → Addr → Result → Shared → Prop} (BODY : BodyT)
    (bmono : ∀ (cenv : Env) (acc : Value) (K K' : Shared → Prop) (E : Value → Shared → Prop) (s : Shared), BODY cenv acc K E s → (∀ s, K s → K' s) → BODY cenv acc K' E s)
    (bloop : ∀ (cenv : Env) (it acc : Value) (R : Result → Shared → Prop) (Inv : Nat → Shared → Prop) (n : Nat) (s : Shared), (∀ n s, Inv n s → wpAny (model prog w) A (pyNext it) (fun r s₁ => match r with
      | none => R (.ok .next) s₁
      | some v => wpAny (model prog w) A (letOwnedTupleGo (.Name x px) it v) (fun _ s₀ => wpAny (model prog w) A (assign (.Name x px) cenv v) (fun _ s₂ => BODY cenv acc (fun s₅ => ∃ m, m < n ∧ Inv m s₅) (notedBy (model prog w) A cenv fun e s' => R (.error e) s') s₂)
          (notedBy (model prog w) A cenv fun e s' => R (.error e) s') s₀) (notedBy (model prog w) A cenv fun e s' => R (.error e) s') s₁) (notedBy (model prog w) A cenv fun e s' => R (.error e) s') s) → Inv n s →
      codeAny (model prog w) A (.compLoop (.ListComp elt (⟨.Name x px, iter, ifs, 0⟩ :: rest) scope pos) 0 it acc cenv) R s)
    (XS : Src prog w A (.Name x px) h₀ L news I n P s₂.heap fp wr Md St ex)
    (hkind : scope.kind = .function) (hcf : ∀ n acc, acc = cl → cellsFrom n scope.names acc = (x, n) :: cl) (hpc : ∀ h, pushCells h scope.names = h.push cellObj) (hkx : (relabel scope env).names.lookup x = some .cell)
    (hPf : ∀ i v h h', P i v h → P i v h') (F : Fr h₀ L s₂.heap m) (N : News h₀ L s₂.heap news)
    (J : Nat → List Value → List (Addr × Obj) → Prop) (h0 : J 0 [] news) (turn : LcxTurn BODY x scope cl env h₀ L m n P fp wr ex J s₂.gens s₂.drawn s₂.os)
    (hRR : ∀ D C h tk m' ys news', Fr h₀ L h m → News h₀ L h ((D, lst ys) :: news') → (∀ p ∈ news', p.1 ≠ D) → h.Ns C m' → h₀.get? C = none → C ≠ L → C ≠ D → (∀ p ∈ news', p.1 ≠ C) → J n ys news' → RR (.ref D) C (.ok .next) { s₂ with heap := h, toks := tk }) :
    wpAny (model prog w) A (newList []) (fun acc s₃ => wpAny (model prog w) A (newFunctionEnv scope env.globals cl [] env.qual none .none (some env)) (fun cenv s₄ =>
      codeAny (model prog w) A (.compStart (.ListComp elt (⟨.Name x px, iter, ifs, 0⟩ :: rest) scope pos) 0 (.ref I) acc { cenv with scope := relabel scope env }) (RR acc cenv.locals) s₄) E s₃) E s₂ := by
  have W := XS.W
  refine wpAny_newObj_type (newEnvX hkind hcf hpc ?_)
  dsimp only
  generalize hH2 : s₂.heap.push { cls := .type "list", dict := none, data := .seq ([] : List Value).toArray } = H2
  have hD2 : H2.objs.size = s₂.heap.objs.size + 1 := by rw [← hH2, Heap.size_push]
  generalize hD : s₂.heap.objs.size = D
  generalize hC : H2.objs.size = C
  have hCD : C = D + 1 := by rw [← hC, hD2, hD]
  generalize hH4 : (H2.push { cls := .type "dict", data := .dict #[] }).push cellObj = H4
  have hs3 : (H2.push { cls := .type "dict", data := .dict #[] }).objs.size = C + 1 := by rw [Heap.size_push, hC]
  have up2 : ∀ b o, H2.get? b = some o → H4.get? b = some o := fun b o e => by rw [← hH4]; exact Heap.get?_push_of_some _ (Heap.get?_push_of_some _ e)
  have old : ∀ b o, s₂.heap.get? b = some o → H4.get? b = some o := fun b o e => up2 b o (by rw [← hH2]; exact Heap.get?_push_of_some _ e)
  have hDo : H4.get? D = some (lst []) := up2 _ _ (by rw [← hH2, ← hD]; exact Heap.get?_push_size _ rfl)
  have hCo : H4.Ns C (fun _ => none) := by
    have := (Heap.Ns.new H2 (.type "dict")).keeps (h' := H4) fun b o e => by rw [← hH4]; exact Heap.get?_push_of_some _ e
    rw [hC] at this; exact this
  have hXo : H4.get? (C + 1) = some cellObj := by rw [← hH4, ← hs3]; exact Heap.get?_push_size _ rfl
  have below : ∀ b : Addr, b < s₂.heap.objs.size → b ≠ C ∧ b ≠ C + 1 ∧ b ≠ D := fun b hb => by
    rw [hD] at hb
    refine ⟨Nat.ne_of_lt ?_, Nat.ne_of_lt ?_, Nat.ne_of_lt hb⟩
    · rw [hCD]; exact Nat.lt_succ_of_lt hb
    · rw [hCD]; exact Nat.lt_succ_of_lt (Nat.lt_succ_of_lt hb)
  have nC : C ∉ fp := fun hm => (below _ (XS.lt _ hm)).1 rfl
  have nX : (C + 1 : Addr) ∉ fp := fun hm => (below _ (XS.lt _ hm)).2.1 rfl
  have nD : D ∉ fp := fun hm => (below _ (XS.lt _ hm)).2.2 rfl
  have wC : C ∉ wr := fun h => nC (W.sub _ h)
  have wX : (C + 1 : Addr) ∉ wr := fun h => nX (W.sub _ h)
  have wD : D ∉ wr := fun h => nD (W.sub _ h)
  have hLw : L ∉ wr := fun h => XS.hL (W.sub _ h)
  have old₀ : ∀ b o, h₀.get? b = some o → b ∉ wr := fun b o e hb => by rw [XS.new b hb] at e; cases e
  have fresh₀ : ∀ a : Addr, s₂.heap.objs.size ≤ a → h₀.get? a = none := fun a ha => by
    cases e : h₀.get? a with
    | none => rfl
    | some o' => exact absurd (Heap.lt_size (F.keep a o' e)) (Nat.not_lt.mpr ha)
  have hD₀ : h₀.get? D = none := fresh₀ _ (Nat.le_of_eq hD)
  have hC₀ : h₀.get? C = none := fresh₀ _ (by rw [hCD, hD]; exact Nat.le_succ _)
  have hX₀ : h₀.get? (C + 1) = none := fresh₀ _ (by rw [hCD, hD]; exact Nat.le_trans (Nat.le_succ _) (Nat.le_succ _))
  have hLb := below L F.ns.lt
  have hCX : C ≠ C + 1 := Nat.ne_of_lt (Nat.lt_succ_self _)
  have hCDn : C ≠ D := by rw [hCD]; exact Nat.ne_of_gt (Nat.lt_succ_self _)
  have hXD : (C + 1 : Addr) ≠ D := by rw [hCD]; exact Nat.ne_of_gt (Nat.lt_succ_of_lt (Nat.lt_succ_self _))
  have off₀ : ∀ p ∈ news, p.1 ∉ wr ∧ p.1 ≠ C ∧ p.1 ≠ C + 1 ∧ p.1 ≠ D := fun p hp => ⟨XS.off p hp, below _ (Heap.lt_size (N p hp).1)⟩
  have st₁ : St 0 H4 := W.frame _ _ _ XS.st fun b _ o e => old b o e
  have hCe : ∀ m' : Str → Option Value, H4.Ns C m' → True := fun _ _ => trivial
  have loop : ∀ s₃ : Shared, s₃ = { s₂ with heap := H4 } →
      codeAny (model prog w) A (.compLoop (.ListComp elt (⟨.Name x px, iter, ifs, 0⟩ :: rest) scope pos) 0 (.ref I) (.ref D) (compEnvC scope ((x, C + 1) :: cl) C env)) (RR (.ref D) C) s₃ := by
    rintro s₃ rfl
    refine bloop _ _ _ _
      (LcxInv h₀ L C D m wr n St J s₂) (n + 1) _ ?_
      ⟨H4, _, 0, [], _, none, cellObj, news, rfl, Nat.zero_le _, rfl, st₁, F.keeps old, hCo, rfl, fun p hp => ?_, off₀, h0⟩
    · rintro k s' ⟨h', tk, i, ys, m', u, oX, news', rfl, hi, rfl, hst', F', hn', hoX, N', off', hJ⟩
      have next : ∀ h₂ : Heap, (∀ b o, b ∉ wr → h'.get? b = some o → h₂.get? b = some o) → Fr h₀ L h₂ m ∧ News h₀ L h₂ ((C + 1, oX) :: (D, lst ys) :: news') ∧ h₂.Ns C m' := fun h₂ hk₂ =>
        ⟨⟨F'.ns.at' fun o e => hk₂ _ o hLw e, fun b o e => hk₂ b o (old₀ b o e) (F'.keep b o e), F'.above⟩, fun p hp => ⟨hk₂ _ _ (by
          rcases List.mem_cons.mp hp with rfl | hp
          · exact wX
          · rcases List.mem_cons.mp hp with rfl | hp
            · exact wD
            · exact (off' p hp).1) (N' p hp).1, (N' p hp).2⟩, hn'.at' fun o e => hk₂ _ o wC e⟩
      by_cases hlt : i < n
      · refine W.item i _ _ _ hlt hst' fun v h₂ tk₂ hMd hk₂ => ?_
        refine W.go i v _ _ _ hMd fun h₃ hP hst₃ hk₃ => ?_
        obtain ⟨F₃, N₃, hn₃⟩ := next h₃ fun b o hb e => hk₃ b o hb (hk₂ b o hb e)
        have zX := N₃ _ (.head _)
        refine wpAny_assign_Name (wpAny_storeName_cell (c := C + 1) hkind hkx (by simp [compEnvC]) ⟨oX, zX.1, hoX⟩ fun h₄ hc₄ hs₄ => ?_)
        obtain ⟨oX', eX', hX'⟩ := hc₄
        have hn₄ : h₄.Ns C m' := hn₃.sameBut hs₄ hCX
        obtain ⟨oC, heC, hoC⟩ := ns_obj hn₄
        have F₄ : Fr h₀ L h₄ m := F₃.change hs₄ zX.2.1 hX₀
        have hst₄ : St (i + 1) h₄ := W.frame _ _ _ hst₃ fun b hb o e => hs₄.extBut b o (fun q => nX (q ▸ hb)) e
        have O : Own h₀ h₄ fp wr ex (PyProof.Rows.ownOf h₀ fp h₄) := Own.of W XS.hL XS.new XS.rest XS.live hst₄
        have Nown : News h₀ L h₄ (PyProof.Rows.ownOf h₀ fp h₄) := news_ownOf XS.hL
        have N₄ : News h₀ L h₄ ((C, oC) :: (C + 1, oX') :: (D, lst ys) :: (news' ++ PyProof.Rows.ownOf h₀ fp h₄)) := fun p hp => by
          revert p; exact (all_cons (⟨heC, hLb.1.symm, hC₀⟩) (all_cons (⟨eX', zX.2⟩) (all_cons (by
              have z := N₃ (D, lst ys) (.tail _ (.head _))
              exact ⟨hs₄.extBut _ _ hXD.symm z.1, z.2⟩) (all_app (fun p hp => (by
              have z := N₃ p (.tail _ (.tail _ hp))
              exact ⟨hs₄.extBut _ _ (off' p hp).2.2.1 z.1, z.2⟩)) (fun p hp => (Nown _ hp))))))
        have offO : ∀ p ∈ PyProof.Rows.ownOf h₀ fp h₄, p.1 ≠ C ∧ p.1 ≠ C + 1 ∧ p.1 ≠ D := fun p hp => ⟨fun e => nC (e ▸ O.sub p hp), fun e => nX (e ▸ O.sub p hp), fun e => nD (e ▸ O.sub p hp)⟩
        have hP₄ : P i v h₄ := hPf i v h₃ h₄ hP
        refine bmono _ _ _ _ _ _ (turn i v ys news' _ C (C + 1) oC oX' D m' h₄ _ _ hlt hP₄ hJ O off' offO hCX hCDn hXD hoC hX' F₄ N₄) fun s₅ h₅ => ?_
        obtain ⟨h₆, tk₆, oC₆, oX₆, m₆, u₆, ys₆, news₆, rfl, F₆, hoC₆, hoX₆, N₆, off₆, hJ₆⟩ := h₅
        have zC := (N₆ _ (.head _)).1
        have N₆' : News h₀ L h₆ (news₆ ++ PyProof.Rows.ownOf h₀ fp h₄) := fun p hp => N₆ p (.tail _ (.tail _ (.tail _ hp)))
        have hst₆ : St (i + 1) h₆ := W.frame _ _ _ hst₄ fun b hb o e => O.frame F₄ F₆ N₆' (fun p hp => List.mem_append_right _ hp) hb e
        refine ⟨n + 1 - (i + 1), by omega, h₆, tk₆, i + 1, ys₆, _, u₆, oX₆, news₆, rfl, hlt, rfl, hst₆, F₆, hoC₆.ns zC, hoX₆, fun p hp => ?_, off₆, hJ₆⟩
        revert p; exact (all_cons (N₆ _ (.tail _ (.head _))) (all_cons (N₆ _ (.tail _ (.tail _ (.head _)))) (fun p hp => (N₆' p (List.mem_append_left _ hp)))))
      · obtain rfl : i = n := Nat.le_antisymm hi (Nat.not_lt.mp hlt)
        refine W.done _ _ _ hst' fun h₂ tk₂ hk₂ => ?_
        obtain ⟨F₂, N₂, hn₂⟩ := next h₂ hk₂
        exact hRR _ _ h₂ tk₂ _ ys news' F₂ (fun p hp => N₂ p (.tail _ hp)) (fun p hp => (off' p hp).2.2.2) hn₂ hC₀ hLb.1.symm hCDn (fun p hp => (off' p hp).2.1) hJ
    · revert p; exact (all_cons (⟨hXo, hLb.2.1.symm, hX₀⟩) (all_cons (⟨hDo, hLb.2.2.symm, hD₀⟩) (fun p hp => (⟨old _ _ (N p hp).1, (N p hp).2⟩))))
  exact codeAny_compStart_list (loop _ rfl) (XS.self _ _ _ st₁ (loop _ rfl))
/-- the one clause's body -/
noncomputable def Body1 (prog : Program) (w : World) (A : Around) (ifs : List Expr) (elt : Expr) : BodyT := fun cenv acc K E s =>
  LcBody prog w A ifs elt cenv (fun x s₄ => wpAny (model prog w) A (call (.builtin "list.append") [acc, x]) (fun _ s₅ => K s₅) E s₄) K E s
theorem Body1.mono {ifs : List Expr} {elt : Expr} (cenv : Env) (acc : Value) (K K' : Shared → Prop) (E : Value → Shared → Prop) (s : Shared) (h : Body1 prog w A ifs elt cenv acc K E s) (hk : ∀ s, K s → K' s) : Body1 prog w A ifs elt cenv acc K' E s :=
  LcBody.mono h (fun _ _ q => wpAny_mono q (fun _ _ k => hk _ k) fun _ _ e => e) hk
/-- the element is appended -/
theorem Body1.of {ifs : List Expr} {elt : Expr} {cenv : Env} {C X D : Addr} {ys : List Value} {own : List (Addr × Obj)} {K : List Value → List (Addr × Obj) → Prop} {s₁ : Shared} (hys : ys.length ≤ 1000) (own_off : ∀ p ∈ own, p.1 ≠ D) (hCD : C ≠ D) (hXD : X ≠ D)
    (h : LcBody prog w A ifs elt cenv (fun y s₂ => LcxEl h₀ L m C X D own wr (K (ys ++ [y])) ys s₁ s₂)
      (fun s₂ => LcxEl h₀ L m C X D own wr (K ys) ys s₁ s₂) E s) :
    Body1 prog w A ifs elt cenv (.ref D) (fun s₄ => LcxEnd h₀ L m C X D own wr K s₁ s₄) E s := by
  refine LcBody.mono h (fun y s₂ q => ?_) fun s₂ q => ?_
  · obtain ⟨h', tk, oC, oX, m₂, u, news', rfl, F, hC, hX, N, off, k⟩ := q
    have zD := N _ (.tail _ (.tail _ (.head _)))
    refine append_at (hsz := by show ys.toArray.size ≤ sizeLine; rw [List.size_toArray, sizeLine_eq]; omega) zD.1 fun h₅ hs₅ hD₅ => ?_
    refine ⟨h₅, tk, oC, oX, m₂, u, ys ++ [y], news', rfl, F.change hs₅ zD.2.1 zD.2.2, hC, hX, fun p hp => ?_, off, k⟩
    revert p; exact (all_cons (by
        have z := N _ (.head _)
        exact ⟨hs₅.extBut _ _ hCD z.1, z.2⟩) (all_cons (by
        have z := N _ (.tail _ (.head _))
        exact ⟨hs₅.extBut _ _ hXD z.1, z.2⟩) (all_cons (⟨hD₅.trans (congrArg some (lst_snoc ys y)), zD.2⟩) (fun p hp => (by
        have z := N p (.tail _ (.tail _ (.tail _ hp)))
        refine ⟨hs₅.extBut _ _ ?_ z.1, z.2⟩
        exact (List.mem_append.mp hp).elim (fun h => (off p h).2.2.2) (own_off p))))))
  · obtain ⟨h', tk, oC, oX, m₂, u, news', rfl, F, hC, hX, N, off, k⟩ := q
    exact ⟨h', tk, oC, oX, m₂, u, ys, news', rfl, F, hC, hX, N, off, k⟩
theorem Body1.loop {elt iter : Expr} {x : Str} {px : Pos} {ifs : List Expr} {scope : Scope} {pos : Pos} (cenv : Env) (it acc : Value) (R : Result → Shared → Prop) (Inv : Nat → Shared → Prop) (n : Nat) (s : Shared)
    (turn : ∀ n s, Inv n s → wpAny (model prog w) A (pyNext it) (fun r s₁ => match r with
      | none => R (.ok .next) s₁
      | some v => wpAny (model prog w) A (letOwnedTupleGo (.Name x px) it v) (fun _ s₀ => wpAny (model prog w) A (assign (.Name x px) cenv v) (fun _ s₂ => Body1 prog w A ifs elt cenv acc (fun s₅ => ∃ m, m < n ∧ Inv m s₅) (notedBy (model prog w) A cenv fun e s' => R (.error e) s') s₂)
          (notedBy (model prog w) A cenv fun e s' => R (.error e) s') s₀) (notedBy (model prog w) A cenv fun e s' => R (.error e) s') s₁) (notedBy (model prog w) A cenv fun e s' => R (.error e) s') s) (h : Inv n s) :
    codeAny (model prog w) A (.compLoop (.ListComp elt [⟨.Name x px, iter, ifs, 0⟩] scope pos) 0 it acc cenv) R s := lc_loop Inv turn n h
end
end Mine
end

section
namespace Mine
open PySem PySem.W PyProof.Rows PySem.Spec PySem.Calls PyProof.Rows.LCg
section
variable {prog : Program} {w : World} {A : Around} {E : Value → Shared → Prop} {s : Shared} {env : Env} {R : Result → Shared → Prop}
theorem turn0 (elt t0 i0 t1 i1 : Expr) (scope : Scope) (pos : Pos) (it acc : Value) (env : Env) :
    compTurn (.ListComp elt [⟨t0, i0, [], 0⟩, ⟨t1, i1, [], 0⟩] scope pos) 0 it acc env = (do
      standAt i0.pos
      match ← pyNext it with
      | none => pure (.done .next)
      | some v =>
        letOwnedTupleGo t0 it v
        assign t0 env v
        let mut ok := true
        for c in ([] : List Expr) do
          if ok then ok ← isTrue c env (eval c env)
        if ok then
          let x ← eval i1 env
          standAt i1.pos
          let x ← foldedSetIterable i1 env x
          let _ ← runOwn (.compStart (.ListComp elt [⟨t0, i0, [], 0⟩, ⟨t1, i1, [], 0⟩] scope pos) 1 (← holding [x] (pyIter x)) acc env) env
        again (.compLoop (.ListComp elt [⟨t0, i0, [], 0⟩, ⟨t1, i1, [], 0⟩] scope pos) 0 it acc env)) := by rfl
theorem turn1 (elt t0 i0 t1 i1 : Expr) (scope : Scope) (pos : Pos) (it acc : Value) (env : Env) :
    compTurn (.ListComp elt [⟨t0, i0, [], 0⟩, ⟨t1, i1, [], 0⟩] scope pos) 1 it acc env = (do
      standAt i1.pos
      match ← pyNext it with
      | none => pure (.done .next)
      | some v =>
        letOwnedTupleGo t1 it v
        assign t1 env v
        let mut ok := true
        for c in ([] : List Expr) do
          if ok then ok ← isTrue c env (eval c env)
        if ok then
          (do let _ ← call (.builtin "list.append") [acc, ← eval elt env])
        again (.compLoop (.ListComp elt [⟨t0, i0, [], 0⟩, ⟨t1, i1, [], 0⟩] scope pos) 1 it acc env)) := by rfl
/-- the second clause's start -/
theorem start1 {elt t0 i0 t1 i1 : Expr} {scope : Scope} {pos : Pos} {it acc : Value}
    (h0 : codeAny (model prog w) A (.compLoop (.ListComp elt [⟨t0, i0, [], 0⟩, ⟨t1, i1, [], 0⟩] scope pos) 1 it acc env) R s)
    (h : wpAny (model prog w) A (pyIter it) (fun it' s' => codeAny (model prog w) A (.compLoop (.ListComp elt [⟨t0, i0, [], 0⟩, ⟨t1, i1, [], 0⟩] scope pos) 1 it' acc env) R s') (notedBy (model prog w) A env fun x s' => R (.error x) s') s) :
    codeAny (model prog w) A (.compStart (.ListComp elt [⟨t0, i0, [], 0⟩, ⟨t1, i1, [], 0⟩] scope pos) 1 it acc env) R s := by
  refine codeAny_of_tree ?_
  show wpAny _ _ ((compStart (.ListComp elt [⟨t0, i0, [], 0⟩, ⟨t1, i1, [], 0⟩] scope pos) 1 it acc env).onRaise (fun x => do noteFrame x env; standAt theWindowsPlace)) _ _ s
  refine wpAny_notedAt ?_
  unfold compStart
  show wpAny _ _ (ask >>= _) _ _ s
  refine wpAny_bind (wpAny_askSetting (wpAny_ite ?_))
  split
  · first
      | exact wpAny_bind (wpAny_pure (wpAny_pure (And.intro rfl h0)))
      | exact wpAny_pure (And.intro rfl h0)
  · first
      | exact wpAny_bind (wpAny_rule (wpAny_bind (wpAny_standAt (wpAny_bind (wpAny_mono h (fun it' s' h' => wpAny_pure (And.intro rfl h')) fun _ _ x => x)))))
      | (refine wpAny_bind (wpAny_rule ?_); show wpAny _ _ (standAt i1.pos >>= _) _ _ s; exact wpAny_bind (wpAny_standAt (wpAny_bind (wpAny_mono h (fun it' s' h' => wpAny_pure (And.intro rfl h')) fun _ _ x => x))))
/-- the second clause's loop -/
theorem loop1 {elt t0 i0 t1 i1 : Expr} {scope : Scope} {pos : Pos} {it acc : Value} (Inv : Nat → Shared → Prop)
    (turn : ∀ n s, Inv n s → wpAny (model prog w) A (pyNext it) (fun r s₁ => match r with
      | none => R (.ok .next) s₁
      | some v => wpAny (model prog w) A (letOwnedTupleGo t1 it v) (fun _ s₀ => wpAny (model prog w) A (assign t1 env v) (fun _ s₂ =>
          wpAny (model prog w) A (eval elt env) (fun x s₄ =>
            wpAny (model prog w) A (call (.builtin "list.append") [acc, x]) (fun _ s₅ => ∃ m, m < n ∧ Inv m s₅) (notedBy (model prog w) A env fun e s' => R (.error e) s') s₄) (notedBy (model prog w) A env fun e s' => R (.error e) s') s₂)
          (notedBy (model prog w) A env fun e s' => R (.error e) s') s₀) (notedBy (model prog w) A env fun e s' => R (.error e) s') s₁) (notedBy (model prog w) A env fun e s' => R (.error e) s') s)
    (n : Nat) (h : Inv n s) : codeAny (model prog w) A (.compLoop (.ListComp elt [⟨t0, i0, [], 0⟩, ⟨t1, i1, [], 0⟩] scope pos) 1 it acc env) R s := by
  refine codeAny_loop rfl Inv (fun n s hI => ?_) n h
  show wpAny _ A ((compTurn (.ListComp elt [⟨t0, i0, [], 0⟩, ⟨t1, i1, [], 0⟩] scope pos) 1 it acc env).onRaise (fun x => do noteFrame x env; theTreesLotGoes x)) _ _ s
  refine wpAny_noted ?_
  rw [turn1]
  refine wpAny_bind (wpAny_standAt (wpAny_bind (wpAny_mono (turn n s hI) (fun r s₁ h₁ => ?_) fun _ _ h' => h')))
  cases r with
  | none => exact wpAny_pure h₁
  | some v =>
    refine wpAny_bind (wpAny_mono h₁ (fun _ s₀ h₀' => ?_) fun _ _ h' => h')
    refine wpAny_bind (wpAny_mono h₀' (fun _ s₂ h₂ => ?_) fun _ _ h' => h')
    refine wpAny_bind (wpAny_tests_nil ?_)
    exact wpAny_bind (wpAny_bind (wpAny_mono h₂ (fun x s₄ h₄ => wpAny_bind (wpAny_mono h₄ (fun _ s₅ h₅ => wpAny_pure (wpAny_pure ⟨rfl, h₅⟩)) fun _ _ h' => h')) fun _ _ h' => h'))
/-- the first clause's body -/
noncomputable def Body2 (prog : Program) (w : World) (A : Around) (elt t0 i0 t1 i1 : Expr) (scope : Scope) (pos : Pos) : BodyT := fun cenv acc K E s =>
  wpAny (model prog w) A (eval i1 cenv) (fun x s₁ => wpAny (model prog w) A (pyIter x) (fun it s₂ =>
    codeAny (model prog w) A (.compStart (.ListComp elt [⟨t0, i0, [], 0⟩, ⟨t1, i1, [], 0⟩] scope pos) 1 it acc cenv) (fun r s' => match r with | .ok _ => K s' | .error x => cameBackBy (model prog w) A cenv E x s') s₂) E s₁) E s
theorem Body2.mono {elt t0 i0 t1 i1 : Expr} {scope : Scope} {pos : Pos} (cenv : Env) (acc : Value) (K K' : Shared → Prop) (E : Value → Shared → Prop) (s : Shared) (h : Body2 prog w A elt t0 i0 t1 i1 scope pos cenv acc K E s) (hk : ∀ s, K s → K' s) :
    Body2 prog w A elt t0 i0 t1 i1 scope pos cenv acc K' E s :=
  wpAny_mono h (fun _ _ q => wpAny_mono q (fun _ _ k => codeAny_mono k fun r s' hr => by
    cases r with
    | ok f => exact hk _ hr
    | error x => exact hr) fun _ _ e => e) fun _ _ e => e
theorem Body2.loop {elt i0 t1 i1 : Expr} {x : Str} {px : Pos} {scope : Scope} {pos : Pos} (hs : ∀ (cenv : Env) v, foldedSetIterable i1 cenv v = pure v) (cenv : Env) (it acc : Value) (R : Result → Shared → Prop) (Inv : Nat → Shared → Prop) (n : Nat) (s : Shared)
    (turn : ∀ n s, Inv n s → wpAny (model prog w) A (pyNext it) (fun r s₁ => match r with
      | none => R (.ok .next) s₁
      | some v => wpAny (model prog w) A (letOwnedTupleGo (.Name x px) it v) (fun _ s₀ => wpAny (model prog w) A (assign (.Name x px) cenv v) (fun _ s₂ => Body2 prog w A elt (.Name x px) i0 t1 i1 scope pos cenv acc (fun s₅ => ∃ m, m < n ∧ Inv m s₅) (notedBy (model prog w) A cenv fun e s' => R (.error e) s') s₂)
          (notedBy (model prog w) A cenv fun e s' => R (.error e) s') s₀) (notedBy (model prog w) A cenv fun e s' => R (.error e) s') s₁) (notedBy (model prog w) A cenv fun e s' => R (.error e) s') s) (h : Inv n s) :
    codeAny (model prog w) A (.compLoop (.ListComp elt [⟨.Name x px, i0, [], 0⟩, ⟨t1, i1, [], 0⟩] scope pos) 0 it acc cenv) R s := by
  refine codeAny_loop rfl Inv (fun n s hI => ?_) n h
  show wpAny _ A ((compTurn (.ListComp elt [⟨.Name x px, i0, [], 0⟩, ⟨t1, i1, [], 0⟩] scope pos) 0 it acc cenv).onRaise (fun x => do noteFrame x cenv; theTreesLotGoes x)) _ _ s
  refine wpAny_noted ?_
  rw [turn0]
  refine wpAny_bind (wpAny_standAt (wpAny_bind (wpAny_mono (turn n s hI) (fun r s₁ h₁ => ?_) fun _ _ h' => h')))
  cases r with
  | none => exact wpAny_pure h₁
  | some v =>
    refine wpAny_bind (wpAny_mono h₁ (fun _ s₀ h₀' => ?_) fun _ _ h' => h')
    refine wpAny_bind (wpAny_mono h₀' (fun _ s₂ h₂ => ?_) fun _ _ h' => h')
    refine wpAny_bind (wpAny_tests_nil ?_)
    simp only [if_true]
    refine wpAny_bind (wpAny_mono h₂ (fun x s₃ h₃ => ?_) fun _ _ h' => h')
    refine wpAny_bind (wpAny_standAt (wpAny_bind (wpAny_of_eq (hs _ x) (wpAny_bind (wpAny_holding (wpAny_mono h₃ (fun it' s₄ h₄ => ?_) fun _ _ h' => h'))))))
    refine wpAny_bind (wpAny_runOwn (codeAny_mono h₄ fun r s' hr => ?_))
    cases r with
    | ok f => exact wpAny_pure ⟨rfl, hr⟩
    | error e => exact hr
end
section
variable {prog : Program} {w : World} {A : Around} {E : Value → Shared → Prop} {s : Shared} {env : Env} {h₀ : Heap} {L : Addr} {m : Str → Option Value} {news : List (Addr × Obj)}
inductive LcxAt (prog : Program) (w : World) (A : Around) (BODY : BodyT) (x : Str) (px : Pos) (scope : Scope) (cl : List (Str × Addr)) (env : Env) (h₀ : Heap) (L : Addr) (m : Str → Option Value) (Fin : Addr → List Value → List (Addr × Obj) → Shared → Prop) (it : Value) (s₂ : Shared) : Prop
  | intro (I : Addr) (n : Nat) (P : Nat → Value → Heap → Prop) (fp wr ex : List Addr) (Md : Nat → Value → Heap → Prop) (St : Nat → Heap → Prop) (news : List (Addr × Obj)) (J : Nat → List Value → List (Addr × Obj) → Prop)
    (e : it = .ref I) (hP : ∀ i v h h', P i v h → P i v h') (X : Src prog w A (.Name x px) h₀ L news I n P s₂.heap fp wr Md St ex) (F : Fr h₀ L s₂.heap m) (N : News h₀ L s₂.heap news) (h0 : J 0 [] news) (turn : LcxTurn BODY x scope cl env h₀ L m n P fp wr ex J s₂.gens s₂.drawn s₂.os)
    (fin : ∀ D ys news' h tk, J n ys news' → Fin D ys news' { s₂ with heap := h, toks := tk })
theorem LcxAt.go {BODY : BodyT} {x : Str} {px : Pos} {scope : Scope} {cl : List (Str × Addr)} {Fin : Addr → List Value → List (Addr × Obj) → Shared → Prop} {I : Addr} {n : Nat} {P : Nat → Value → Heap → Prop} {fp wr ex : List Addr} {Md : Nat → Value → Heap → Prop} {St : Nat → Heap → Prop} {hI : Heap} {g : Array GenState} {d : Drawn} {tk : Nat} {o : OsState} (J : Nat → List Value → List (Addr × Obj) → Prop)
    (hP : ∀ i v h h', P i v h → P i v h') (X : Src prog w A (.Name x px) h₀ L news I n P hI fp wr Md St ex) (F : Fr h₀ L hI m) (N : News h₀ L hI news) (h0 : J 0 [] news) (turn : LcxTurn BODY x scope cl env h₀ L m n P fp wr ex J g d o)
    (fin : ∀ D ys news' h tk, J n ys news' → Fin D ys news' ⟨h, g, d, tk, o⟩) : LcxAt prog w A BODY x px scope cl env h₀ L m Fin (.ref I) ⟨hI, g, d, tk, o⟩ := .intro I n P fp wr ex Md St news J rfl hP X F N h0 turn fin
theorem ListComp2_at {elt i0 t1 i1 : Expr} {x : Str} {px : Pos} {scope : Scope} {cl : List (Str × Addr)} {pos : Pos} {Q : Value → Shared → Prop} (_F₀ : Fr h₀ L s.heap m)
    (hclos : closureFor scope env = pure cl) (hkind : scope.kind = .function) (hcf : ∀ n acc, acc = cl → cellsFrom n scope.names acc = (x, n) :: cl) (hpc : ∀ h, pushCells h scope.names = h.push cellObj) (hkx : (relabel scope env).names.lookup x = some .cell)
    (hnames : ∀ y ∈ scope.names, y.2 = .local → scope.names.lookup y.1 = some .local)
    (h : wpAny (model prog w) A (eval i0 env) (fun xv s₁ => wpAny (model prog w) A (pyIter xv) (LcxAt prog w A (Body2 prog w A elt (.Name x px) i0 t1 i1 scope pos) x px scope cl env h₀ L m (FinEv h₀ L m Q)) E s₁) E s)
    (hs : ∀ x, foldedSetIterable i0 env x = pure x := by intro _; rfl) (hs1 : ∀ (cenv : Env) v, foldedSetIterable i1 cenv v = pure v := by intro _ _; rfl) :
    wpAny (model prog w) A (eval (.ListComp elt [⟨.Name x px, i0, [], 0⟩, ⟨t1, i1, [], 0⟩] scope pos) env) Q E s := by
  rw [eval_ListComp]
  refine wpAny_comprehension_free (use := none) rfl hs hclos hkind hnames (wpAny_mono h (fun xv s₁ h₁ => wpAny_mono h₁ (fun it s₂ h₂ => ?_) fun _ _ e => e) fun _ _ e => e)
  obtain ⟨I, n, P, fp, wr, ex, Md, St, news, J, rfl, hPf, X, F, N, h0, turn, fin⟩ := h₂
  refine lcx_block _ Body2.mono (fun cenv it acc R Inv n s t h => Body2.loop hs1 cenv it acc R Inv n s t h) X hkind hcf hpc hkx hPf F N J h0 turn ?_
  intro D C h tk m' ys news' F' N' offD hn hC₀ hCL hCD offC hJ
  refine ⟨m', hn, fun h'' hs'' => fin D ys news' h'' tk hJ (F'.change hs'' hCL hC₀) (fun p hp => ?_) offD⟩
  refine ⟨hs''.extBut _ _ ?_ (N' p hp).1, (N' p hp).2⟩
  revert p; exact (all_cons (hCD.symm) (fun p hp => (offC p hp)))
theorem AssignLcx_at {elt iter : Expr} {x y : Str} {px py : Pos} {scope : Scope} {cl : List (Str × Addr)} {pos spos : Pos} {Q : Flow → Shared → Prop} (_F₀ : Fr h₀ L s.heap m) (hLe : env.locals = L)
    (hsw : swapsWith (.ListComp elt [⟨.Name x px, iter, [], 0⟩] scope pos) (some (.Name y py)) spos.line env = pure true)
    (hclos : closureFor scope env = pure cl) (hkind : scope.kind = .function) (hcf : ∀ n acc, acc = cl → cellsFrom n scope.names acc = (x, n) :: cl) (hpc : ∀ h, pushCells h scope.names = h.push cellObj) (hkx : (relabel scope env).names.lookup x = some .cell)
    (hnames : ∀ z ∈ scope.names, z.2 = .local → scope.names.lookup z.1 = some .local)
    (hy : env.kindOf y = some .local) (hp : (env.scope.kind == .class || (env.scope.kind == .module && env.locals != env.globals)) = false)
    (h : wpAny (model prog w) A (eval iter env) (fun xv s₁ => wpAny (model prog w) A (pyIter xv) (LcxAt prog w A (Body1 prog w A [] elt) x px scope cl env h₀ L m (FinAs h₀ L m y Q)) E s₁) E s)
    (hs : ∀ x, foldedSetIterable iter env x = pure x := by intro _; rfl) :
    wpAny (model prog w) A (exec (.Assign [.Name y py] (.ListComp elt [⟨.Name x px, iter, [], 0⟩] scope pos) spos) env) Q E s := by
  subst hLe
  rw [exec_Assign_Name_used _ _ _ _ hsw]
  refine wpAny_bind (wpAny_standAt (wpAny_bind ?_))
  show wpAny _ A (do let _ ← comprehension (.ListComp elt [⟨.Name x px, iter, [], 0⟩] scope pos) scope env _ (newList []) false (eval iter env) (some (assign (.Name y py) env))) _ _ s
  refine wpAny_bind (wpAny_mono (wpAny_comprehension_free (use := some (assign (.Name y py) env)) (Q := fun _ s' => Q .next s') rfl hs hclos hkind hnames
    (wpAny_mono h (fun xv s₁ h₁ => wpAny_mono h₁ (fun it s₂ h₂ => ?_) fun _ _ e => e) fun _ _ e => e)) (fun _ s' hq => wpAny_pure (wpAny_pure hq)) fun _ _ e => e)
  obtain ⟨I, n, P, fp, wr, ex, Md, St, news, J, rfl, hPf, X, F, N, h0, turn, fin⟩ := h₂
  refine lcx_block _ Body1.mono (fun cenv it acc R Inv n s t h => Body1.loop cenv it acc R Inv n s t h) X hkind hcf hpc hkx hPf F N J h0 turn ?_
  intro D C h tk m' ys news' F' N' offD hn hC₀ hCL hCD offC hJ
  show wpAny _ A (assign (.Name y py) env (.ref D)) _ _ _
  refine wpAny_assign_Name (wpAny_storeName_local hy F'.ns (fun h₂ hn₂ hs₂ => ?_) hp)
  have hL₀ : h₀.get? env.locals = none := Heap.get?_none_of_le F'.above
  have F₂ : Fr h₀ env.locals h₂ (fun z => if z = y then some (.ref D) else m z) := ⟨hn₂, fun b o e => hs₂.extBut b o (fun q => by rw [q, hL₀] at e; cases e) (F'.keep b o e), F'.above⟩
  refine ⟨m', hn.sameBut hs₂ hCL, fun h'' hs'' => fin D ys news' h'' _ hJ (F₂.change hs'' hCL hC₀) (fun p hp => ?_) offD⟩
  have z : h₂.get? p.1 = some p.2 := hs₂.extBut _ _ (N' p hp).2.1 (N' p hp).1
  refine ⟨hs''.extBut _ _ ?_ z, (N' p hp).2⟩
  clear z; revert p; exact (all_cons (hCD.symm) (fun p hp => (offC p hp)))
theorem lcxList {hp : Heap} {g : Array GenState} {d : Drawn} {tk : Nat} {o : OsState} {BODY : BodyT} {x : Str} {px : Pos} {scope : Scope} {cl : List (Str × Addr)} {Fin : Addr → List Value → List (Addr × Obj) → Shared → Prop} {l : Addr} {vs : List Value} {c : Nat} (hh : A.handled = none) (F : Fr h₀ L hp m) (N : News h₀ L hp news) (hm : (l, listOf vs.toArray c) ∈ news)
    (h : ∀ I h' fp wr Md St, Src prog w A (.Name x px) h₀ L news I vs.length (fun i v _ => vs[i]? = some v) h' fp wr Md St [l] → Fr h₀ L h' m → News h₀ L h' news → LcxAt prog w A BODY x px scope cl env h₀ L m Fin (.ref I) ⟨h', g, d, tk, o⟩) :
    wpAny (model prog w) A (pyIter (.ref l)) (LcxAt prog w A BODY x px scope cl env h₀ L m Fin) E ⟨hp, g, d, tk, o⟩ := srcList (s := ⟨hp, g, d, tk, o⟩) hh F N hm h
theorem lcxRange {hp : Heap} {g : Array GenState} {d : Drawn} {tk : Nat} {o : OsState} {BODY : BodyT} {x : Str} {px : Pos} {scope : Scope} {cl : List (Str × Addr)} {Fin : Addr → List Value → List (Addr × Obj) → Shared → Prop} {r : Addr} {a b : Int} {t u v : Tok} {n : Nat} (hh : A.handled = none) (F : Fr h₀ L hp m) (N : News h₀ L hp news)
    (hr : IsRange hp r a b 1 t u v) (hsm : Builtin.Range.small a b 1 = true) (hn : Builtin.Range.rangeSize a b 1 = (n : Int))
    (h : ∀ I h' fp wr Md St, Src prog w A (.Name x px) h₀ L news I n (fun i v _ => ∃ t, v = .int (a + (i : Int)) t) h' fp wr Md St [] → Fr h₀ L h' m → News h₀ L h' news → LcxAt prog w A BODY x px scope cl env h₀ L m Fin (.ref I) ⟨h', g, d, tk, o⟩) :
    wpAny (model prog w) A (pyIter (.ref r)) (LcxAt prog w A BODY x px scope cl env h₀ L m Fin) E ⟨hp, g, d, tk, o⟩ := srcRange (s := ⟨hp, g, d, tk, o⟩) hh F N hr hsm hn h
end
end Mine
end

section
namespace Mine
open PySem PySem.W PyProof.Rows PySem.Spec PySem.Calls PyProof.Rows.LCg
section
variable {prog : Program} {w : World} {A : Around} {E : Value → Shared → Prop} {s : Shared} {env : Env} {h₀ : Heap} {L C X D l : Addr} {m m₂ : Str → Option Value} {rest : List (Addr × Obj)} {oC oX : Obj} {ys vs : List Value} {R : Result → Shared → Prop} {elt t0 i0 i1 : Expr} {y : Str} {py : Pos} {scope : Scope} {cl : List (Str × Addr)} {pos : Pos}
inductive InEl (h₀ : Heap) (L : Addr) (m : Str → Option Value) (C X D : Addr) (oX : Obj) (ys : List Value) (rest : List (Addr × Obj)) (wr : List Addr) (K : List (Addr × Obj) → Prop) (s s' : Shared) : Prop
  | intro (h' : Heap) (tk' : Nat) (oC : Obj) (m₄ : Str → Option Value) (nx : List (Addr × Obj)) (e : s' = { s with heap := h', toks := tk' }) (F : Fr h₀ L h' m) (hC : NsObj oC m₄) (N : News h₀ L h' ((C, oC) :: (X, oX) :: (D, lst ys) :: (nx ++ rest))) (off : ∀ p ∈ nx, p.1 ∉ wr ∧ p.1 ≠ C ∧ p.1 ≠ X ∧ p.1 ≠ D) (k : K nx)
inductive InInv (h₀ : Heap) (L C X D : Addr) (oX : Obj) (m : Str → Option Value) (rest : List (Addr × Obj)) (wr : List Addr) (n y : Nat) (St : Nat → Heap → Prop) (J : Nat → List Value → List (Addr × Obj) → Prop) (s : Shared) (k : Nat) (s' : Shared) : Prop
  | intro (h' : Heap) (tk i : Nat) (ys : List Value) (oC : Obj) (m' : Str → Option Value) (nx : List (Addr × Obj)) (e : s' = { s with heap := h', toks := tk }) (hi : i ≤ n) (hk : k = n + 1 - i) (hyl : ys.length ≤ y + i) (st : St i h') (F : Fr h₀ L h' m) (hC : NsObj oC m') (N : News h₀ L h' ((C, oC) :: (X, oX) :: (D, lst ys) :: (nx ++ rest))) (off : ∀ p ∈ nx, p.1 ∉ wr ∧ p.1 ≠ C ∧ p.1 ≠ X ∧ p.1 ≠ D) (j : J i ys nx)
/-- the second clause over a list of the ledger -/
theorem innerList {c : Nat} (hh : A.handled = none) (F : Fr h₀ L s.heap m) (N : News h₀ L s.heap ((C, oC) :: (X, oX) :: (D, lst ys) :: rest)) (hC : NsObj oC m₂) (hm : (l, listOf vs.toArray c) ∈ rest) (hsz : ys.length + vs.length ≤ 1000)
    (hCX : C ≠ X) (hCD : C ≠ D) (hXD : X ≠ D) (offr : ∀ p ∈ rest, p.1 ≠ C ∧ p.1 ≠ X ∧ p.1 ≠ D) (hkind : scope.kind = .function) (hy : scope.names.lookup y = some .local)
    (J : Nat → List Value → List (Addr × Obj) → Prop) (h0 : J 0 ys [])
    (turn : ∀ (j : Nat) (v : Value) (ys' : List Value) (nx own : List (Addr × Obj)) (h : Heap) (tk : Nat) (oC' : Obj) (m₃ : Str → Option Value) (wr : List Addr) (E' : Value → Shared → Prop), vs[j]? = some v → J j ys' nx → (∀ b ∈ wr, ∃ o, (b, o) ∈ own) → (∀ p ∈ nx, p.1 ∉ wr ∧ p.1 ≠ C ∧ p.1 ≠ X ∧ p.1 ≠ D) → m₃ y = some v → NsObj oC' m₃ → Fr h₀ L h m →
      News h₀ L h ((C, oC') :: (X, oX) :: (D, lst ys') :: (nx ++ (rest ++ own))) →
      wpAny (model prog w) A (eval elt (compEnvC scope cl C env)) (fun z s' => InEl h₀ L m C X D oX ys' (rest ++ own) wr (J (j + 1) (ys' ++ [z])) s s') E' { s with heap := h, toks := tk })
    (fin : ∀ h tk oC' m₃ ys' nx, Fr h₀ L h m → NsObj oC' m₃ → News h₀ L h ((C, oC') :: (X, oX) :: (D, lst ys') :: (nx ++ rest)) → (∀ p ∈ nx, p.1 ≠ C ∧ p.1 ≠ X ∧ p.1 ≠ D) → J vs.length ys' nx → R (.ok .next) { s with heap := h, toks := tk }) :
    wpAny (model prog w) A (pyIter (.ref l)) (fun it s₂ => codeAny (model prog w) A (.compStart (.ListComp elt [⟨t0, i0, [], 0⟩, ⟨.Name y py, i1, [], 0⟩] scope pos) 1 it (.ref D) (compEnvC scope cl C env)) R s₂) E s := by
  refine srcList (target := .Name y py) hh F N (.tail _ (.tail _ (.tail _ hm))) ?_
  intro I hI fp wr Md St XS F2 N2
  have W := XS.W
  have lr := offr _ hm
  have zl := N _ (.tail _ (.tail _ (.tail _ hm)))
  have nfp : ∀ b : Addr, b ∉ wr → h₀.get? b = none → b ≠ l → b ∉ fp := fun b h1 h2 h3 hb => by
    rcases XS.rest b hb with h | ⟨o, h⟩ | h
    · exact h1 h
    · rw [h2] at h; cases h
    · exact h3 (List.mem_singleton.mp h)
  have zC := N _ (.head _)
  have zX := N _ (.tail _ (.head _))
  have zD := N _ (.tail _ (.tail _ (.head _)))
  have wC : C ∉ wr := XS.off _ (.head _)
  have wX : X ∉ wr := XS.off _ (.tail _ (.head _))
  have wD : D ∉ wr := XS.off _ (.tail _ (.tail _ (.head _)))
  have nC := nfp C wC zC.2.2 lr.1.symm
  have nX := nfp X wX zX.2.2 lr.2.1.symm
  have nD := nfp D wD zD.2.2 lr.2.2.symm
  have hLw : L ∉ wr := fun h => XS.hL (W.sub _ h)
  have old₀ : ∀ b o, h₀.get? b = some o → b ∉ wr := fun b o e hb => by rw [XS.new b hb] at e; cases e
  have loop : ∀ s₃ : Shared, s₃ = { s with heap := hI } →
      codeAny (model prog w) A (.compLoop (.ListComp elt [⟨t0, i0, [], 0⟩, ⟨.Name y py, i1, [], 0⟩] scope pos) 1 (.ref I) (.ref D) (compEnvC scope cl C env)) R s₃ := by
    rintro s₃ rfl
    refine loop1
      (InInv h₀ L C X D oX m rest wr vs.length ys.length St J s) ?_ (vs.length + 1)
      ⟨hI, s.toks, 0, ys, oC, m₂, [], rfl, Nat.zero_le _, rfl, Nat.le_refl _, XS.st, F2, hC, N2, fun _ h => (nomatch h), h0⟩
    rintro k s' ⟨h', tk, i, ys', oC', m', nx, rfl, hi, rfl, hyl, hst', F', hC', N', off', hJ⟩
    have offall : ∀ p ∈ (C, oC') :: (X, oX) :: (D, lst ys') :: (nx ++ rest), p.1 ∉ wr := fun p hp => by
      revert p; exact (all_cons (wC) (all_cons (wX) (all_cons (wD) (fun p hp => ((List.mem_append.mp hp).elim (fun h => (off' p h).1) fun h => XS.off p (.tail _ (.tail _ (.tail _ h))))))))
    have next : ∀ h₂ : Heap, (∀ b o, b ∉ wr → h'.get? b = some o → h₂.get? b = some o) → Fr h₀ L h₂ m ∧ News h₀ L h₂ ((C, oC') :: (X, oX) :: (D, lst ys') :: (nx ++ rest)) := fun h₂ hk₂ =>
      ⟨⟨F'.ns.at' fun o e => hk₂ _ o hLw e, fun b o e => hk₂ b o (old₀ b o e) (F'.keep b o e), F'.above⟩, fun p hp => ⟨hk₂ _ _ (offall p hp) (N' p hp).1, (N' p hp).2⟩⟩
    by_cases hlt : i < vs.length
    · refine W.item i _ _ _ hlt hst' fun v h₂ tk₂ hMd hk₂ => ?_
      refine W.go i v _ _ _ hMd fun h₃ hP hst₃ hk₃ => ?_
      obtain ⟨F₃, N₃⟩ := next h₃ fun b o hb e => hk₃ b o hb (hk₂ b o hb e)
      have offCr : ∀ p ∈ (X, oX) :: (D, lst ys') :: (nx ++ rest), p.1 ≠ C := fun p hp => by
        revert p; exact (all_cons (hCX.symm) (all_cons (hCD.symm) (fun p hp => ((List.mem_append.mp hp).elim (fun h => (off' p h).2.1) fun h => (offr p h).1))))
      have zc := N₃ _ (.head _)
      refine wpAny_assign_Name (wpAny_storeName_local (lookup_relabel_local hy) (hC'.ns zc.1) (fun h₄ hn₄ hs₄ => ?_) (by simp [compEnvC, relabel, hkind]))
      obtain ⟨oC₄, eC₄, hC₄⟩ := ns_obj hn₄
      have F₄ : Fr h₀ L h₄ m := F₃.change hs₄ zc.2.1 zc.2.2
      have hst₄ : St (i + 1) h₄ := W.frame _ _ _ hst₃ fun b hb o e => hs₄.extBut b o (fun q => nC (by have q' : b = C := q; rw [← q']; exact hb)) e
      have O : Own h₀ h₄ fp wr [l] (PyProof.Rows.ownOf h₀ fp h₄) := Own.of W XS.hL XS.new XS.rest XS.live hst₄
      have Nown : News h₀ L h₄ (PyProof.Rows.ownOf h₀ fp h₄) := news_ownOf XS.hL
      have N₄ : News h₀ L h₄ ((C, oC₄) :: (X, oX) :: (D, lst ys') :: (nx ++ (rest ++ PyProof.Rows.ownOf h₀ fp h₄))) := fun p hp => by
        have old : ∀ q ∈ (X, oX) :: (D, lst ys') :: (nx ++ rest), h₄.get? q.1 = some q.2 ∧ q.1 ≠ L ∧ h₀.get? q.1 = none := fun q hq => ⟨hs₄.extBut _ _ (offCr q hq) (N₃ q (.tail _ hq)).1, (N₃ q (.tail _ hq)).2⟩
        revert p; exact (all_cons (⟨eC₄, zc.2⟩) (all_cons (old _ (.head _)) (all_cons (old _ (.tail _ (.head _))) (all_app (fun p hp => (old p (.tail _ (.tail _ (List.mem_append_left _ hp))))) (all_app (fun p hp => (old p (.tail _ (.tail _ (List.mem_append_right _ hp))))) (fun p hp => (Nown p hp)))))))
      refine wpAny_mono (turn i v ys' nx _ h₄ _ oC₄ _ wr _ hP hJ O.has off' (by simp) hC₄ F₄ N₄) (fun z s₅ h₅ => ?_) fun _ _ e => e
      obtain ⟨h₆, tk₆, oC₆, m₆, nx₆, rfl, F₆, hC₆, N₆, off₆, hJ₆⟩ := h₅
      have zD₆ := N₆ _ (.tail _ (.tail _ (.head _)))
      have hst₆ : St (i + 1) h₆ := W.frame _ _ _ hst₄ fun b hb o e => O.frame F₄ F₆ N₆ (fun p hp => .tail _ (.tail _ (.tail _ (List.mem_append_right _ (List.mem_append_right _ hp))))) hb e
      refine append_at (hsz := by show ys'.toArray.size ≤ sizeLine; rw [List.size_toArray, sizeLine_eq]; omega) zD₆.1 fun h₇ hs₇ hD₇ => ?_
      refine ⟨vs.length + 1 - (i + 1), by omega, h₇, tk₆, i + 1, ys' ++ [z], oC₆, m₆, nx₆, rfl, hlt, rfl, by rw [List.length_append, List.length_singleton]; omega, W.frame _ _ _ hst₆ fun b hb o e => hs₇.extBut b o (fun q => nD (by have q' : b = D := q; rw [← q']; exact hb)) e,
        F₆.change hs₇ zD₆.2.1 zD₆.2.2, hC₆, fun p hp => ?_, off₆, hJ₆⟩
      revert p; exact (all_cons (by
          have zz := N₆ _ (.head _)
          exact ⟨hs₇.extBut _ _ hCD zz.1, zz.2⟩) (all_cons (by
          have zz := N₆ _ (.tail _ (.head _))
          exact ⟨hs₇.extBut _ _ hXD zz.1, zz.2⟩) (all_cons (⟨hD₇.trans (congrArg some (lst_snoc ys' z)), zD₆.2⟩) (fun p hp => (by
          have zz := N₆ p (.tail _ (.tail _ (.tail _ (by
            rcases List.mem_append.mp hp with h | h
            · exact List.mem_append_left _ h
            · exact List.mem_append_right _ (List.mem_append_left _ h)))))
          refine ⟨hs₇.extBut _ _ ?_ zz.1, zz.2⟩
          exact (List.mem_append.mp hp).elim (fun h => (off₆ p h).2.2.2) fun h => (offr p h).2.2)))))
    · obtain rfl : i = vs.length := Nat.le_antisymm hi (Nat.not_lt.mp hlt)
      refine W.done _ _ _ hst' fun h₂ tk₂ hk₂ => ?_
      obtain ⟨F₂, N₂⟩ := next h₂ hk₂
      exact fin h₂ tk₂ _ _ ys' nx F₂ hC' N₂ (fun p hp => (off' p hp).2) hJ
  exact start1 (loop _ rfl) (XS.self _ _ _ XS.st (loop _ rfl))
end
end Mine
end

section
open PySem PySem.W PyProof.Rows PySem.Spec PySem.Calls
namespace Mine
/-- lists of ints, each an object of the ledger -/
noncomputable def RowsAt (nw : List (Addr × Obj)) (vs : List Value) (rows : List (List Int)) : Prop :=
  vs.length = rows.length ∧ ∀ (i : Nat) (v : Value) (r : List Int), vs[i]? = some v → rows[i]? = some r → ∃ (a : Addr) (us : List Value) (c : Nat), v = .ref a ∧ (a, listOf us.toArray c) ∈ nw ∧ IntsAre us r
noncomputable def ordersF : Nat → List Int → List (List Int)
  | 0, _ => [[]]
  | n + 1, ns => if ns = [] then [[]] else ns.flatMap fun one => (ordersF n (ns.filter fun o => o != one)).map (one :: ·)
theorem rows_nil {l6 : Addr} {rest : List (Addr × Obj)} : RowsAt ((l6, listOf #[] 0) :: rest) [.ref l6] [[]] := ⟨rfl, fun i v r h1 h2 => by
  match i, h1, h2 with
  | 0, h1, h2 =>
    simp only [List.getElem?_cons_zero, Option.some.injEq] at h1 h2
    subst h1 h2
    exact ⟨l6, [], 0, rfl, .head _, .nil⟩
  | i + 1, h1, h2 => simp at h1⟩
theorem new_apart {a b c d e : Addr} {oa ob oc od : Obj} {news : List (Addr × Obj)} (h1 : b < a ∧ c < a ∧ d < a ∧ AllLt a news) (h2 : c < b ∧ d < b ∧ AllLt b news) (h3 : d < c ∧ AllLt c news) (h4 : ∀ p ∈ news, p.1 < e) (hd : d = e + 1) : ∀ p ∈ (a, oa) :: (b, ob) :: [(c, oc), (d, od)], ∀ q ∈ news, p.1 ≠ q.1 := by
  intro p hp q hq
  revert p; exact (all_cons (Nat.ne_of_gt (kst_ltOf h1.2.2.2 q hq)) (all_cons (Nat.ne_of_gt (kst_ltOf h2.2.2 q hq)) (all_cons (Nat.ne_of_gt (kst_ltOf h3.2 q hq)) (fun p hp => (by
      obtain rfl := List.mem_singleton.mp hp
      have := h4 q hq
      refine Nat.ne_of_gt ?_
      show q.1 < d
      rw [hd]; exact Nat.lt_succ_of_lt this)))))
noncomputable def OrdersC (n : Nat) : Prop := ∀ (w : World) (mean : ExcName → Option Value) (mg mb : Str → Option Value) (news : List (Addr × Obj))
  (dp un : Nat) (gd : Option (List Code)) (cn : Str) (cs : Scope) (a : Addr) (ccd : Value) (cl : List (Str × Addr)) (outer : List Env) (A₀ : Around) (base h₀ : Heap) (L : Addr) (m : Str → Option Value) (hS : Heap) (gS : Array GenState) (dS : Drawn) (tS : Nat) (oS : OsState) (Q E : Value → Shared → Prop)
  (l : Addr) (vs : List Value) (c : Nat) (ns : List Int), ns.length ≤ n → n ≤ 3 → (l, listOf vs.toArray c) ∈ news → IntsAre vs ns →
    Below A₀ base outer h₀ → Fr h₀ L hS m → (hd.heap_39 w.params).In h₀ → News h₀ L hS news → Top hd.view_39 (looseW hd.view_39 [Str.ofString "_filemode_table"]) mean mg mb h₀ → cs.kind = .function →
    dp + n + 3 < recursionLimit → un + 100 * n + 200 < cLine → (∀ (D : Addr) (k : Nat) (us : List Value) (nw : List (Addr × Obj)) (h' : Heap) (tk' : Nat), Fr h₀ L h' m → News h₀ L h' ((D, listOf us.toArray k) :: (nw ++ news)) → (∀ p ∈ (D, listOf us.toArray k) :: nw, ∀ q ∈ news, p.1 ≠ q.1) → RowsAt nw us (ordersF n ns) → Q (.ref D) ⟨h', gS, dS, tk', oS⟩) →
    wpAny (model Challenge.rw_pe0142_01.row.prog w) (ktrTop dp un gd cn cs L a ccd cl outer) (call (.ref 94) [.ref l]) Q E ⟨hS, gS, dS, tS, oS⟩
theorem RowsAt.nil {nw : List (Addr × Obj)} : RowsAt nw [] [] := ⟨rfl, fun i v r h _ => by simp at h⟩
theorem take_snocO {α : Type} {l : List α} {i : Nat} {a : α} (h : l[i]? = some a) : l.take (i + 1) = l.take i ++ [a] := by simp [List.take_add_one, h]
theorem filt_one {k2 : Int} {f : Int → Bool} : [k2].filter f = if f k2 = true then [k2] else [] := by cases h : f k2 <;> simp [h]
theorem sum_le_mul {b : Nat} : ∀ {l : List Nat}, (∀ x ∈ l, x ≤ b) → l.sum ≤ l.length * b
  | [], _ => by simp
  | a :: l, h => by
    have h1 := h a (.head _)
    have h2 := sum_le_mul (l := l) fun x hx => h x (.tail _ hx)
    rw [List.sum_cons, List.length_cons, Nat.add_mul, Nat.one_mul]
    omega
theorem ord_len : ∀ (n : Nat) (ns : List Int), ns.length ≤ 4 → (ordersF n ns).length ≤ 4 ^ n
  | 0, _, _ => by simp [ordersF]
  | n + 1, ns, h => by
    unfold ordersF
    split
    · have : 0 < 4 ^ (n + 1) := Nat.pos_of_ne_zero (by simp)
      exact this
    · rw [List.length_flatMap]
      have hb : ∀ x ∈ ns.map (fun one => ((ordersF n (ns.filter fun o => o != one)).map (one :: ·)).length), x ≤ 4 ^ n := fun x hx => by
        obtain ⟨o, _, rfl⟩ := List.mem_map.mp hx
        rw [List.length_map]
        exact ord_len n _ (Nat.le_trans (List.length_filter_le _ _) h)
      have := sum_le_mul hb
      rw [List.length_map] at this
      calc _ ≤ ns.length * 4 ^ n := this
        _ ≤ 4 * 4 ^ n := Nat.mul_le_mul_right _ h
        _ = 4 ^ (n + 1) := by rw [Nat.pow_succ, Nat.mul_comm]
theorem filt_lt {ns : List Int} {i n : Nat} {k : Int} (h : ns[i]? = some k) (hl : ns.length ≤ n + 1) : (ns.filter fun o => o != k).length ≤ n := by
  have h1 : (ns.filter fun o => o != k).length < ns.length := by
    refine List.length_filter_lt_length_iff_exists.mpr ⟨k, List.mem_of_getElem? h, by simp⟩
  omega
theorem RowsAt.mono {a b : List (Addr × Obj)} {vs : List Value} {rows : List (List Int)} (h : RowsAt a vs rows) (hs : ∀ p ∈ a, p ∈ b) : RowsAt b vs rows := ⟨h.1, fun i v r h1 h2 => by
  obtain ⟨x, us, c, e, hm, hi⟩ := h.2 i v r h1 h2
  exact ⟨x, us, c, e, hs _ hm, hi⟩⟩
theorem RowsAt.snoc {nw : List (Addr × Obj)} {vs us : List Value} {rows : List (List Int)} {x : Addr} {c : Nat} {r : List Int} (h : RowsAt nw vs rows) (hi : IntsAre us r) : RowsAt ((x, listOf us.toArray c) :: nw) (vs ++ [.ref x]) (rows ++ [r]) := by
  refine ⟨by rw [List.length_append, List.length_append, h.1]; rfl, fun i v q h1 h2 => ?_⟩
  rcases Nat.lt_or_ge i vs.length with hlt | hge
  · rw [List.getElem?_append_left hlt] at h1
    rw [List.getElem?_append_left (h.1 ▸ hlt)] at h2
    obtain ⟨y, us', c', e, hm, hi'⟩ := h.2 i v q h1 h2
    exact ⟨y, us', c', e, .tail _ hm, hi'⟩
  · rw [List.getElem?_append_right hge] at h1
    rw [List.getElem?_append_right (h.1 ▸ hge)] at h2
    have h0 : i - vs.length = 0 := by
      have := (List.getElem?_eq_some_iff.mp h1).1
      simp at this; exact this
    have h0' : i - rows.length = 0 := by rw [← h.1]; exact h0
    rw [h0] at h1
    rw [h0'] at h2
    simp only [List.getElem?_cons_zero, Option.some.injEq] at h1 h2
    subst h1 h2
    exact ⟨x, us, c, rfl, .head _, hi⟩
noncomputable def rowsUpto (n : Nat) (ns : List Int) (i : Nat) : List (List Int) := (ns.take i).flatMap fun one => (ordersF n (ns.filter fun o => o != one)).map (one :: ·)
theorem row_len : ∀ {n : Nat} {ns : List Int} {j : Nat} {r : List Int}, (ordersF n ns)[j]? = some r → r.length ≤ n
  | 0, ns, j, r, h => by
    unfold ordersF at h
    match j, h with
    | 0, h => simp at h; subst h; simp
    | j + 1, h => simp at h
  | n + 1, ns, j, r, h => by
    unfold ordersF at h
    split at h
    · match j, h with
      | 0, h => simp at h; subst h; simp
      | j + 1, h => simp at h
    · have hm := List.mem_of_getElem? h
      obtain ⟨o, _, h2⟩ := List.mem_flatMap.mp hm
      obtain ⟨q, hq, rfl⟩ := List.mem_map.mp h2
      obtain ⟨i, hi⟩ := List.getElem?_of_mem hq
      have := row_len hi
      simp only [List.length_cons]; omega
theorem upto_len (n : Nat) (ns : List Int) (i : Nat) (h : ns.length ≤ 4) : (rowsUpto n ns i).length ≤ 4 * 4 ^ n := by
  unfold rowsUpto
  rw [List.length_flatMap]
  have hb : ∀ x ∈ (ns.take i).map (fun one => ((ordersF n (ns.filter fun o => o != one)).map (one :: ·)).length), x ≤ 4 ^ n := fun x hx => by
    obtain ⟨o, _, rfl⟩ := List.mem_map.mp hx
    rw [List.length_map]
    exact ord_len n _ (Nat.le_trans (List.length_filter_le _ _) h)
  have := sum_le_mul hb
  rw [List.length_map, List.length_take] at this
  exact Nat.le_trans this (Nat.mul_le_mul_right _ (Nat.le_trans (Nat.min_le_right _ _) h))
theorem upto_succ {n : Nat} {ns : List Int} {i : Nat} {k : Int} (h : ns[i]? = some k) : rowsUpto n ns (i + 1) = rowsUpto n ns i ++ (ordersF n (ns.filter fun o => o != k)).map (k :: ·) := by
  unfold rowsUpto
  rw [take_snocO h, List.flatMap_append, List.flatMap_singleton]
section
variable {w : World} {mean : ExcName → Option Value} {mg mb : Str → Option Value} {news : List (Addr × Obj)}
  {dp un : Nat} {gd : Option (List Code)} {cn : Str} {cs : Scope} {a : Addr} {ccd : Value} {cl : List (Str × Addr)} {outer : List Env} {A₀ : Around} {base h₀ : Heap} {L : Addr} {m : Str → Option Value} {s : Shared} {Q E : Value → Shared → Prop}
set_option maxRecDepth 100000 in
set_option maxHeartbeats 40000000 in
theorem orders_gen (n : Nat) (ih : ∀ k, k < n → OrdersC k) : OrdersC n := by
  intro w mean mg mb news dp un gd cn cs a ccd cl outer A₀ base h₀ L m hS gS dS tS oS Q E l vs c ns hns hn3 hm hi B F X N T hk hdp hun hret
  revert X
  k_fill
  w_top off
  k_with_none
  k_with "execs cons" => (((try clear qk); (try clear ek); (try k_fold); (with_reducible refine wpAny_execs_cons ?_); k_fold; (try dsimp only)))
  k_with "eval ListComp" => ((refine stopped_of ?_))
  k_with "my lc_two LOrd" => (((with_unfolding_all refine' ListComp2_at ?kF ?k1 ?k2 ?k3 ?k4 ?k5 ?k6 ?_ ?k7 ?k8; (case kF => assumption); (case k1 => rfl); (case k2 => rfl); (case k3 => intro n acc e; subst e; rfl); (case k4 => intro h; rfl); (case k5 => rfl); (case k6 => decide); (case k7 => exact fun _ => rfl); (case k8 => exact fun _ _ => rfl))))
  k_with "my lc_one LOrd" => (((with_unfolding_all refine' ListComp_at ?kF ?k1 ?k2 ?k3 ?k4 ?_ ?k5; (case kF => assumption); (case k1 => with_unfolding_all rfl); (case k2 => decide); (case k3 => rfl); (case k4 => decide); (case k5 => exact fun _ => rfl))))
  k_with "compareOp Eq ref ref" => ((refine stopped_of ?_))
  k_with "pyIter ref" => ((refine stopped_of ?_))
  k_with "call ref" => (((with_reducible show wpAny _ _ (call (Value.ref 94) _) _ _ _); refine stopped_of ?_))
  k_with "LcEnd" => ((refine stopped_of ?_))
  intro X
  refine wpAny_call ?_
  k_dflt (refine' code_defC ?k1 ?k2 ?k3 ?k4 ?k5 ?kA ?kF ?kK ?k6 ?k7 ?k8 ?k9 ?kB ?kD ?_ ?c2 ?c3 ?c4; (case kA => exact rfl); (case kF => exact rfl); (case kK => assumption); (case k1 => k_asm); (case k2 => k_asm); (case k3 => k_asm); (case k4 => k_asm); (case k5 => k_asm); (case k6 => k_is); (case k7 => k_is); (case k8 => ktr_room); (case k9 => exact BindsTo.of_eq rfl); (case kB => exact rfl); (case kD => decide +kernel); (case c2 => exact rfl); (case c3 => exact rfl); (case c4 => exact rfl))
  intro g L1 h1 tk1 cells1 FG F1 N1 Y1 B1 X1 T1 l1
  obtain ⟨oI, hE1, hoI⟩ := CellsAre.one Y1
  subst hE1
  clear Y1
  simp only [List.cons_append, List.nil_append] at N1
  replace hoI : oI.data = .cell (some (.ref l)) := hoI
  replace F1 : Fr g L1 h1 (fun _ => none) := F1
  dsimp only
  k_steps
  refine Stopped.mk ?_
  rename_i l4 h4 F4 N4 l5
  have hm4 : (l, listOf vs.toArray c) ∈ (l4, listOf #[] 0) :: (L1 + 1, oI) :: news := .tail _ (.tail _ hm)
  refine eq_intsK (vs := vs) (us := []) ⟨_, (N4 _ hm4).1, rfl, _, rfl⟩ hi ⟨_, (N4 _ (.head _)).1, rfl, _, rfl⟩ .nil (by units_room) ?_
  by_cases hnil : ns = []
  · rw [decide_eq_true hnil]
    k_steps
    rename Fr _ _ _ _ => kF
    rename News _ _ _ _ => kN
    have e : ordersF n ns = [[]] := by
      cases n with
      | zero => rfl
      | succ n => simp [ordersF, hnil]
    exact hret _ 0 [.ref _] ((_, listOf #[] 0) :: [(l4, listOf #[] 0), (L1 + 1, oI)]) _ _ kF kN (new_apart (by assumption) (by assumption) l5 l1 rfl) (by rw [e]; exact rows_nil)
  · rw [decide_eq_false hnil]
    k_steps
    refine Stopped.mk ?_
    walk_at "my lc_two LOrd"
    k_steps
    refine Stopped.mk ?_
    rename Fr _ _ _ _ => F4
    obtain ⟨n', rfl⟩ : ∃ n', n = n' + 1 := by
      cases n with
      | zero => exact absurd (List.length_eq_zero_iff.mp (Nat.le_zero.mp hns)) hnil
      | succ n => exact ⟨n, rfl⟩
    refine lcxList (vs := vs) (c := c) rfl F4 N4 hm4 ?_
    intro I hI fp wr Md St XS F5 N5
    refine LcxAt.go (fun i ys nw => ∃ nx, nw = nx ++ ((l4, listOf #[] 0) :: (L1 + 1, oI) :: news) ∧ RowsAt nx ys (rowsUpto n' ns i) ∧ (∀ p ∈ nx, ∀ q ∈ news, p.1 ≠ q.1)) (fun _ _ _ _ h => h) XS F5 N5 (⟨[], rfl, RowsAt.nil, fun _ h => (nomatch h)⟩) ?_ ?_
    · intro i v ys news₁ own C X oC oX D m₂ h tk E' hi9 hP hJ O off offO hCX hCD hXD hC hX F N
      obtain ⟨nx, rfl, hR, hA⟩ := hJ
      obtain ⟨k, t, rfl, hk9⟩ := IntsAre.at hi i v hP
      have N6 : News g L1 h ((l, listOf vs.toArray c) :: (L1 + 1, oI) :: (C, oC) :: (X, oX) :: (D, LCg.lst ys) :: ((nx ++ ((l4, listOf #[] 0) :: (L1 + 1, oI) :: news)) ++ own)) := fun p hp => N p (by
        revert p; exact (all_cons (.tail _ (.tail _ (.tail _ (List.mem_append_left _ (List.mem_append_right _ hm4))))) (all_cons (.tail _ (.tail _ (.tail _ (List.mem_append_left _ (List.mem_append_right _ (.tail _ (.head _))))))) (fun p hp => (hp)))))
      clear N
      unfold Body2
      k_sweep
      k_steps
      refine Stopped.mk ?_
      walk_at "my lc_one LOrd"
      k_steps
      refine Stopped.mk ?_
      rename Fr _ _ _ _ => F7
      have hl4 : l ≠ C ∧ l ≠ X ∧ l ≠ D := (off _ (List.mem_append_right _ hm4)).2
      have hL14 : L1 + 1 ≠ C ∧ L1 + 1 ≠ X ∧ L1 + 1 ≠ D := (off (L1 + 1, oI) (List.mem_append_right _ (.tail _ (.head _)))).2
      refine lcList (vs := vs) (c := c) rfl F7 N6 (.head _) ?_
      intro I2 hI2 fp2 wr2 Md2 St2 XS2 F8 N8
      refine LcAt.go (fun i2 ys2 nw => (l, listOf vs.toArray c) :: (L1 + 1, oI) :: (C, oC) :: (X, oX) :: (D, LCg.lst ys) :: ((nx ++ ((l4, listOf #[] 0) :: (L1 + 1, oI) :: news)) ++ own) = nw ∧ IntsAre ys2 ((ns.take i2).filter fun o => o != k)) (by have := hi.length; rw [sizeLine_eq]; omega) XS2 F8 N8 (⟨rfl, .nil⟩) ?_ ?_
      · intro i2 v2 ys2 news2 own2 C2 oC2 D2 m3 h3 tk3 E2 hi2 hP2 hJ2 O2 off2 offO2 hCD2 hC2 F N
        k_fold
        obtain ⟨rfl, hys2⟩ := hJ2
        obtain ⟨k2, t2, rfl, hk2⟩ := IntsAre.at hi i2 v2 hP2
        refine asg_name F N hC2 (offC off2 offO2 hCD2) rfl rfl ?_
        clear F N
        intro h' tk' oC' m₃ F hC' hx1 N
        try k_unfold
        dsimp only [LcBody]
        k_sweep
        k_steps
        · refine Stopped.mk ?_
          exact LcEnd.mk _ F N hC' (fun p hp => hp) off2 ⟨rfl, by rw [take_snocO hk2, List.filter_append]; exact hys2.append (by rw [filt_one, if_pos (by simpa using (by assumption : k2 ≠ k))]; exact .cons _ _ .nil)⟩
        · refine Stopped.mk ?_
          exact LcEnd.mk _ F N hC' (fun p hp => hp) off2 ⟨rfl, by rw [take_snocO hk2, List.filter_append, filt_one, if_neg (by simpa using (by assumption : k2 = k)), List.append_nil]; exact hys2⟩
      · intro D2 ys2 nw2 h3 tk3 hJ2 F N hoff2
        obtain ⟨rfl, hys2⟩ := hJ2
        dsimp only at F N
        k_sweep
        k_steps
        refine Stopped.mk ?_
        rw [List.take_of_length_le (by rw [hi.length]; exact Nat.le_refl _)] at hys2
        have hlt := filt_lt hk9 hns
        have IH := ih n' (Nat.lt_succ_self n')
        unfold OrdersC at IH
        k_dflt (refine' IH _ _ _ _ _ _ _ _ _ _ _ _ _ _ _ _ _ _ _ _ _ _ _ _ _ _ D2 ys2 ys2.length (ns.filter fun o => o != k) ?a1 ?a2 ?a3 ?a4 ?k1 ?k2 ?k3 ?k4 ?k5 ?kK ?kd ?ku ?_; (case k4 => exact N); (case a1 => exact hlt); (case a2 => omega); (case a3 => exact .head _); (case a4 => exact hys2); (case k1 => k_asm); (case k2 => exact F); (case k3 => k_asm); (case k5 => k_asm); (case kK => exact rfl); (case kd => ktr_room); (case ku => ktr_units))
        clear IH F N
        intro R kR us nw' h5 tk5 F N hA5 hR5
        k_steps
        refine Stopped.mk ?_
        have N9 : News g L1 h5 ((C, oC) :: (X, oX) :: (D, LCg.lst ys) :: ((R, listOf us.toArray kR) :: (nw' ++ ((nx ++ ((l4, listOf #[] 0) :: (L1 + 1, oI) :: news)) ++ own)))) := fun p hp => N p (by
          revert p; exact (all_cons (.tail _ (List.mem_append_right _ (.tail _ (.tail _ (.tail _ (.head _)))))) (all_cons (.tail _ (List.mem_append_right _ (.tail _ (.tail _ (.tail _ (.tail _ (.head _))))))) (all_cons (.tail _ (List.mem_append_right _ (.tail _ (.tail _ (.tail _ (.tail _ (.tail _ (.head _)))))))) (all_cons (.head _) (all_app (fun p hp => (.tail _ (List.mem_append_left _ hp))) (fun p hp => (.tail _ (List.mem_append_right _ (.tail _ (.tail _ (.tail _ (.tail _ (.tail _ (.tail _ hp)))))))))))))))
        have mC : (C, oC) ∈ (D2, listOf ys2.toArray ys2.length) :: (l, listOf vs.toArray c) :: (L1 + 1, oI) :: (C, oC) :: (X, oX) :: (D, LCg.lst ys) :: ((nx ++ ((l4, listOf #[] 0) :: (L1 + 1, oI) :: news)) ++ own) := .tail _ (.tail _ (.tail _ (.head _)))
        have mX : (X, oX) ∈ (D2, listOf ys2.toArray ys2.length) :: (l, listOf vs.toArray c) :: (L1 + 1, oI) :: (C, oC) :: (X, oX) :: (D, LCg.lst ys) :: ((nx ++ ((l4, listOf #[] 0) :: (L1 + 1, oI) :: news)) ++ own) := .tail _ (.tail _ (.tail _ (.tail _ (.head _))))
        have mD : (D, LCg.lst ys) ∈ (D2, listOf ys2.toArray ys2.length) :: (l, listOf vs.toArray c) :: (L1 + 1, oI) :: (C, oC) :: (X, oX) :: (D, LCg.lst ys) :: ((nx ++ ((l4, listOf #[] 0) :: (L1 + 1, oI) :: news)) ++ own) := .tail _ (.tail _ (.tail _ (.tail _ (.tail _ (.head _)))))
        have offr : ∀ p ∈ (R, listOf us.toArray kR) :: (nw' ++ ((nx ++ ((l4, listOf #[] 0) :: (L1 + 1, oI) :: news)) ++ own)), p.1 ≠ C ∧ p.1 ≠ X ∧ p.1 ≠ D := fun p hp => by
          revert p; exact (all_cons (⟨hA5 _ (.head _) _ mC, hA5 _ (.head _) _ mX, hA5 _ (.head _) _ mD⟩) (all_app (fun p hp => (⟨hA5 _ (.tail _ hp) _ mC, hA5 _ (.tail _ hp) _ mX, hA5 _ (.tail _ hp) _ mD⟩)) (fun p hp => ((List.mem_append.mp hp).elim (fun h => (off p h).2) (offO p)))))
        have hu := upto_len n' ns i (by omega)
        have ho := ord_len n' (ns.filter fun o => o != k) (by omega)
        have h16 : 4 ^ n' ≤ 4 ^ 2 := Nat.pow_le_pow_right (by decide) (by omega)
        have hl1 := hR.1
        have hl2 := hR5.1
        clear N mC mX mD
        refine innerList (vs := us) (c := kR) rfl F N9 hC (.head _) (by omega) hCX hCD hXD offr rfl rfl
          (fun j ys' nx2 => RowsAt (nx2 ++ nx) ys' (rowsUpto n' ns i ++ ((ordersF n' (ns.filter fun o => o != k)).take j).map (k :: ·)) ∧ ∀ p ∈ nx2, ∀ q ∈ news ++ own, p.1 ≠ q.1) ⟨by simpa using hR, fun _ h => (nomatch h)⟩ ?_ ?_
        · intro j v ys' nx2 own2 h tk oC' m₃ wr2 E2 hj hJ2 hown2 off2 hy2 hC' F N
          obtain ⟨hR2, hA2⟩ := hJ2
          obtain ⟨r, hr⟩ : ∃ r, (ordersF n' (ns.filter fun o => o != k))[j]? = some r := by
            have := (List.getElem?_eq_some_iff.mp hj).1
            exact ⟨_, List.getElem?_eq_getElem (by omega)⟩
          obtain ⟨a3, us3, c3, rfl, hm3, hi3⟩ := hR5.2 j v r hj hr
          have N3 : News g L1 h ((a3, listOf us3.toArray c3) :: (C, oC') :: (X, oX) :: (D, LCg.lst ys') :: (nx2 ++ ((R, listOf us.toArray kR) :: (nw' ++ ((nx ++ ((l4, listOf #[] 0) :: (L1 + 1, oI) :: news)) ++ own)) ++ own2))) := fun p hp => N p (by
            revert p; exact (all_cons (.tail _ (.tail _ (.tail _ (List.mem_append_right _ (List.mem_append_left _ (.tail _ (List.mem_append_left _ hm3))))))) (fun p hp => (hp))))
          clear N
          k_sweep
          k_steps
          rename_i l6 h6 F6 N6 l6l
          refine add_lists_ints (vs := [.int k t]) (ws := us3) F6 N6 ⟨_, (N6 _ (.head _)).1, rfl, _, rfl⟩ ⟨_, (N6 _ (.tail _ (.head _))).1, rfl, _, rfl⟩ (.cons _ _ .nil) hi3 ?_ (by rw [sizeLine_eq]; have := row_len hr; simp only [List.length_cons, List.length_nil]; omega)
          intro h7 F7 N7 hi7
          have fr : ∀ p ∈ (l6, listOf [Value.int k t].toArray 0) :: (a3, listOf us3.toArray c3) :: (C, oC') :: (X, oX) :: (D, LCg.lst ys') :: (nx2 ++ ((R, listOf us.toArray kR) :: (nw' ++ ((nx ++ ((l4, listOf #[] 0) :: (L1 + 1, oI) :: news)) ++ own)) ++ own2)), p.1 ≠ h6.objs.size := fun p hp => Nat.ne_of_lt (Heap.lt_size (N6 p hp).1)
          dsimp only
          generalize h6.objs.size = l7 at *
          refine ⟨h7, _, oC', m₃, (l7, listOf ([Value.int k t] ++ us3).toArray 0) :: nx2, rfl, F7, hC', fun p hp => N7 p ?_, fun p hp => ?_, ?_, fun p hp q hq => ?_⟩
          · revert p; exact (all_cons (.tail _ (.tail _ (.tail _ (.head _)))) (all_cons (.tail _ (.tail _ (.tail _ (.tail _ (.head _))))) (all_cons (.tail _ (.tail _ (.tail _ (.tail _ (.tail _ (.head _)))))) (all_cons (.head _) (fun p hp => (.tail _ (.tail _ (.tail _ (.tail _ (.tail _ (.tail _ hp)))))))))))
          · revert p; exact (all_cons (by
                refine ⟨fun hw => ?_, (fr _ (.tail _ (.tail _ (.head _)))).symm, (fr _ (.tail _ (.tail _ (.tail _ (.head _))))).symm, (fr _ (.tail _ (.tail _ (.tail _ (.tail _ (.head _)))))).symm⟩
                obtain ⟨o, ho9⟩ := hown2 _ hw
                exact fr _ (.tail _ (.tail _ (.tail _ (.tail _ (.tail _ (List.mem_append_right _ (List.mem_append_right _ ho9))))))) rfl) (fun p hp => (off2 p hp)))
          · rw [take_snocO hr, List.map_append, ← List.append_assoc]
            exact RowsAt.snoc hR2 hi7
          · revert p; exact (all_cons (by
                have mq : q ∈ nx2 ++ ((R, listOf us.toArray kR) :: (nw' ++ ((nx ++ ((l4, listOf #[] 0) :: (L1 + 1, oI) :: news)) ++ own)) ++ own2) := by
                  refine List.mem_append_right _ (List.mem_append_left _ (.tail _ (List.mem_append_right _ ?_)))
                  rcases List.mem_append.mp hq with hq | hq
                  · exact List.mem_append_left _ (List.mem_append_right _ (.tail _ (.tail _ hq)))
                  · exact List.mem_append_right _ hq
                exact Ne.symm (fr q (.tail _ (.tail _ (.tail _ (.tail _ (.tail _ mq))))))) (fun p hp => (hA2 p hp q hq)))
        · intro h tk oC' m₃ ys' nx2 F N' N off2 hJ2
          obtain ⟨hR2, hA2⟩ := hJ2
          refine ⟨h, tk, oC', oX, m₃, _, ys', nx2 ++ (nx ++ ((l4, listOf #[] 0) :: (L1 + 1, oI) :: news)), rfl, F, N', hX, fun p hp => N p ?_, fun p hp => ?_, nx2 ++ nx, by rw [List.append_assoc], ?_, fun p hp q hq => ?_⟩
          · revert p; exact (all_cons (.head _) (all_cons (.tail _ (.head _)) (all_cons (.tail _ (.tail _ (.head _))) (fun p hp => (by
                refine .tail _ (.tail _ (.tail _ ?_))
                rcases List.mem_append.mp hp with hp | hp
                · rcases List.mem_append.mp hp with hp | hp
                  · exact List.mem_append_left _ hp
                  · exact List.mem_append_right _ (.tail _ (List.mem_append_right _ (List.mem_append_left _ hp)))
                · exact List.mem_append_right _ (.tail _ (List.mem_append_right _ (List.mem_append_right _ hp))))))))
          · rcases List.mem_append.mp hp with hp | hp
            · refine ⟨fun hw => ?_, off2 p hp⟩
              obtain ⟨o, ho9⟩ := O.has _ hw
              exact hA2 p hp _ (List.mem_append_right _ ho9) rfl
            · exact off p hp
          · rw [upto_succ hk9]
            rw [List.take_of_length_le (by omega)] at hR2
            exact hR2
          · rcases List.mem_append.mp hp with hp | hp
            · exact hA2 p hp q (List.mem_append_left _ hq)
            · exact hA p hp q hq
    · intro D ys news' h tk hJ F N hoff
      obtain ⟨nx, rfl, hR, hA⟩ := hJ
      dsimp only at F N
      k_sweep
      k_steps
      rename Fr _ _ _ _ => kF
      rename News _ _ _ _ => kN

      refine hret D ys.length ys (nx ++ [(l4, listOf #[] 0), (L1 + 1, oI)]) _ _ kF (fun p hp => kN p ?_) (fun p hp q hq => ?_) ?_
      · revert p; exact (all_cons (.head _) (fun p hp => (by
            rw [List.append_assoc] at hp
            exact .tail _ hp)))
      · revert p; exact (all_cons (Ne.symm (hoff q (List.mem_append_right _ (.tail _ (.tail _ hq))))) (all_app (fun p hp => (hA p hp q hq)) (all_cons (Nat.ne_of_gt (kst_ltOf l5.2 q hq)) (fun p hp => (by
            obtain rfl := List.mem_singleton.mp hp
            exact Nat.ne_of_gt (Nat.lt_succ_of_lt (l1 q hq)))))))
      · have e : ordersF (n' + 1) ns = rowsUpto n' ns vs.length := by
          unfold ordersF rowsUpto
          rw [if_neg hnil, List.take_of_length_le (by rw [hi.length]; exact Nat.le_refl _)]
        rw [e]
        exact hR.mono fun p hp => List.mem_append_left _ hp
end
theorem orders_all : ∀ n, OrdersC n := fun n => Nat.strongRecOn n orders_gen
theorem orders_six : ordersF 3 [0, 1, 2] = [[0, 1, 2], [0, 2, 1], [1, 0, 2], [1, 2, 0], [2, 0, 1], [2, 1, 0]] := by decide
end Mine
end

section
open PySem PySem.W PyProof.Rows PySem.Spec PySem.Calls PyProof.Rows.LCg
namespace Mine
section
variable {prog : Program} {w : World} {A : Around} {E : Value → Shared → Prop} {s : Shared} {h₀ : Heap} {L : Addr} {m : Str → Option Value} {news : List (Addr × Obj)} {env : Env}
theorem srcZipL {elts : List Expr} {k : Nat} {pos : Pos} {l1 l2 : Addr} {xs ys : List Value} {c1 c2 : Nat} {K : Value → Shared → Prop} (hh : A.handled = none) (F : Fr h₀ L s.heap m) (N : News h₀ L s.heap news) (hm1 : (l1, listOf xs.toArray c1) ∈ news) (hm2 : (l2, listOf ys.toArray c2) ∈ news) (hxy : xs.length = ys.length)
    (h : ∀ I h' fp wr Md St, Src prog w A (.Tuple elts k pos) h₀ L news I xs.length (Pairs fun i a b => xs[i]? = some a ∧ ys[i]? = some b) h' fp wr Md St [l1, l2] → Fr h₀ L h' m → News h₀ L h' news → K (.ref I) { s with heap := h' }) :
    wpAny (model prog w) A (call (.type "zip") [.ref l1, .ref l2]) (fun xv s₁ => wpAny (model prog w) A (pyIter xv) K E s₁) E s := by
  have hLs : L < s.heap.objs.size := F.ns.lt
  have hax1 := N _ hm1
  have hax2 := N _ hm2
  have hl1 : s.heap.IsList l1 xs.toArray := ⟨_, hax1.1, rfl, c1, rfl⟩
  have hl2 : s.heap.IsList l2 ys.toArray := ⟨_, hax2.1, rfl, c2, rfl⟩
  have hlt1 : l1 < s.heap.objs.size := Heap.lt_size hax1.1
  have hlt2 : l2 < s.heap.objs.size := Heap.lt_size hax2.1
  have D : ZipApart (s.heap.objs.size + 4) (s.heap.objs.size + 2) (s.heap.objs.size + 3) s.heap.objs.size (s.heap.objs.size + 1) l1 l2 := ktu_apart _ _ _ hlt1 hlt2
  refine call_zip_2 hl1 hl2 fun h' hz hTI hTO hi1 hi2 hsz hk => ?_
  refine wpAny_pyIter_zip hz ?_
  have W0 := WalksT.zip2 (prog := prog) (w := w) hh _ _ _ _ _ _ _ D xs.toArray ys.toArray
  have en : min xs.toArray.size ys.toArray.size = xs.length := by rw [List.size_toArray, List.size_toArray, ← hxy, Nat.min_self]
  rw [en] at W0
  have W := KTurns.ofWalksU (elts := elts) (k := k) (pos := pos) W0.toU
  have W' : KTurns prog w A (.Tuple elts k pos) _ _ _ _ (Pairs fun i a b => xs[i]? = some a ∧ ys[i]? = some b) _ _ :=
    moreWr { sub := W.sub, frame := W.frame, item := W.item, done := W.done, go := fun i v s Q E hm hQ => W.go i v s Q E hm fun h' hP => hQ h' (by
        obtain ⟨T, vals, rfl, ⟨p, q, hp, hq, rfl⟩, hT⟩ := hP
        exact ⟨T, _, _, rfl, ⟨by simpa using hp, by simpa using hq⟩, hT⟩) } (wr' := [s.heap.objs.size + 4, s.heap.objs.size + 2, s.heap.objs.size + 3, s.heap.objs.size, s.heap.objs.size + 1]) (all_cons (.head _) (all_cons (.tail _ (.head _)) (all_cons (.tail _ (.tail _ (.head _))) (all_cons (.tail _ (.tail _ (.tail _ (.head _)))) (all_cons (.tail _ (.tail _ (.tail _ (.tail _ (.head _))))) all_nil))))) (all_cons (.head _) (all_cons (.tail _ (.tail _ (.head _))) (all_cons (.tail _ (.tail _ (.tail _ (.head _)))) (all_cons (.tail _ (.tail _ (.tail _ (.tail _ (.head _))))) all_nil))))
  refine h (s.heap.objs.size + 4) h' _ [s.heap.objs.size + 4, s.heap.objs.size + 2, s.heap.objs.size + 3, s.heap.objs.size, s.heap.objs.size + 1] _ _ ⟨W', ?_, ?_, ?_, ⟨hz, hTI, ⟨_, _, hTO⟩, hi1, hi2, hl1.at fun o e => hk _ o e, hl2.at fun o e => hk _ o e⟩, ?_, ?_, ?_, fun b hb => ?_⟩ (F.keeps hk) (N.grown hk)
  · exact fun hm => all_cons (P := fun b => L ≠ b) (ktu_ne 4 hLs) (all_cons (ktu_ne 2 hLs) (all_cons (ktu_ne 3 hLs) (all_cons (Nat.ne_of_lt hLs) (all_cons (ktu_ne 1 hLs) (all_cons (fun e => hax1.2.1 e.symm) (all_cons (fun e => hax2.2.1 e.symm) all_nil)))))) L hm rfl
  · exact all_cons (ktu_new F (Nat.le_add_right _ _)) (all_cons (ktu_new F (Nat.le_add_right _ _)) (all_cons (ktu_new F (Nat.le_add_right _ _)) (all_cons (ktu_new F (Nat.le_refl _)) (all_cons (ktu_new F (Nat.le_add_right _ _)) all_nil))))
  · intro p hp hm
    have hlp := Heap.lt_size (N p hp).1
    exact all_cons (P := fun b => p.1 ≠ b) (ktu_ne 4 hlp) (all_cons (ktu_ne 2 hlp) (all_cons (ktu_ne 3 hlp) (all_cons (Nat.ne_of_lt hlp) (all_cons (ktu_ne 1 hlp) all_nil)))) p.1 hm rfl
  · rintro i g b ⟨hz, hTI, ⟨_, _, hTO⟩, ⟨o1, ho1, _⟩, ⟨o2, ho2, _⟩, _⟩ hb
    revert b; exact (all_cons (⟨_, hz⟩) (all_cons (⟨_, hTI⟩) (all_cons (⟨_, hTO⟩) (all_cons (⟨_, ho1⟩) (all_cons (⟨_, ho2⟩) all_nil)))))
  · rintro s' Q' E' ⟨hz, _⟩ q
    exact wpAny_pyIter_zip hz q
  · intro b hb
    show b < h'.objs.size
    rw [hsz]
    revert b; exact (all_cons (Nat.add_lt_add_left (by decide) _) (all_cons (Nat.add_lt_add_left (by decide) _) (all_cons (Nat.add_lt_add_left (by decide) _) (all_cons (Nat.lt_add_of_pos_right (by decide)) (all_cons (Nat.add_lt_add_left (by decide) _) (all_cons (Nat.lt_of_lt_of_le hlt1 (Nat.le_add_right _ _)) (all_cons (Nat.lt_of_lt_of_le hlt2 (Nat.le_add_right _ _)) all_nil)))))))
  · revert b; exact (all_cons (.inl (.head _)) (all_cons (.inl (.tail _ (.head _))) (all_cons (.inl (.tail _ (.tail _ (.head _)))) (all_cons (.inl (.tail _ (.tail _ (.tail _ (.head _))))) (all_cons (.inl (.tail _ (.tail _ (.tail _ (.tail _ (.head _)))))) (all_cons (.inr (.inr (.head _))) (all_cons (.inr (.inr (.tail _ (.head _)))) all_nil)))))))

variable {ifs : List Expr} {elt : Expr} {scope : Scope} {cl : List (Str × Addr)} {Fin : Addr → List Value → List (Addr × Obj) → Shared → Prop}
theorem lcZipL {hp : Heap} {g : Array GenState} {d : Drawn} {tk : Nat} {o : OsState} {elts : List Expr} {k : Nat} {pos : Pos} {l1 l2 : Addr} {xs ys : List Value} {c1 c2 : Nat} (hh : A.handled = none) (F : Fr h₀ L hp m) (N : News h₀ L hp news) (hm1 : (l1, listOf xs.toArray c1) ∈ news) (hm2 : (l2, listOf ys.toArray c2) ∈ news) (hxy : xs.length = ys.length)
    (h : ∀ I h' fp wr Md St, Src prog w A (.Tuple elts k pos) h₀ L news I xs.length (Pairs fun i a b => xs[i]? = some a ∧ ys[i]? = some b) h' fp wr Md St [l1, l2] → Fr h₀ L h' m → News h₀ L h' news → LcAt prog w A (.Tuple elts k pos) ifs elt scope cl env h₀ L m Fin (.ref I) ⟨h', g, d, tk, o⟩) :
    wpAny (model prog w) A (call (.type "zip") [.ref l1, .ref l2]) (fun xv s₁ => wpAny (model prog w) A (pyIter xv) (LcAt prog w A (.Tuple elts k pos) ifs elt scope cl env h₀ L m Fin) E s₁) E ⟨hp, g, d, tk, o⟩ := srcZipL (s := ⟨hp, g, d, tk, o⟩) hh F N hm1 hm2 hxy h
end
end Mine
end

section
open PySem PySem.W PyProof.Rows PySem.Spec PySem.Calls
namespace Mine
theorem xor_mod2 (a b : Nat) : (a ^^^ b) % 2 = (a + b) % 2 := by
  have h := Nat.testBit_xor a b 0
  rw [Nat.testBit_zero, Nat.testBit_zero, Nat.testBit_zero] at h
  have h1 : a % 2 = 0 ∨ a % 2 = 1 := by omega
  have h2 : b % 2 = 0 ∨ b % 2 = 1 := by omega
  have h3 : (a ^^^ b) % 2 = 0 ∨ (a ^^^ b) % 2 = 1 := by omega
  rcases h1 with h1 | h1 <;> rcases h2 with h2 | h2 <;> rcases h3 with h3 | h3 <;> simp [h1, h2, h3] at h ⊢ <;> omega
theorem xor_add : ∀ a b : Nat, (a ^^^ b) + 2 * (a &&& b) = a + b := by
  intro a
  induction a using Nat.strongRecOn with
  | ind a ih =>
    intro b
    by_cases ha : a = 0
    · subst ha; simp
    · have h := ih (a / 2) (by omega) (b / 2)
      have h1 : (a ^^^ b) / 2 = a / 2 ^^^ b / 2 := Nat.xor_div_two
      have h2 : (a &&& b) / 2 = a / 2 &&& b / 2 := Nat.and_div_two
      have h3 : (a ^^^ b) % 2 = (a + b) % 2 := xor_mod2 a b
      have h4 : (a &&& b) % 2 = 1 ↔ a % 2 = 1 ∧ b % 2 = 1 := Nat.and_mod_two_eq_one
      rw [← h1, ← h2] at h
      by_cases h5 : a % 2 = 1 ∧ b % 2 = 1
      · have := h4.mpr h5; omega
      · have : (a &&& b) % 2 = 0 := by
          have : (a &&& b) % 2 ≠ 1 := fun g => h5 (h4.mp g)
          omega
        omega
theorem bitAnd_nat (a b : Nat) : Builtin.bitAnd (a : Int) (b : Int) = ((a &&& b : Nat) : Int) := by
  simp [Builtin.bitAnd]
theorem bitXor_nat (a b : Nat) : Builtin.bitXor (a : Int) (b : Int) = ((a ^^^ b : Nat) : Int) := by
  rw [bitXor_and, bitAnd_nat]
  have := xor_add a b
  omega
theorem bitOf_xor (a b j : Nat) : bitOf (a ^^^ b) j = (bitOf a j + bitOf b j) % 2 := by
  unfold bitOf
  have h : (a ^^^ b) / 2 ^ j = (a / 2 ^ j) ^^^ (b / 2 ^ j) := by
    rw [← Nat.shiftRight_eq_div_pow, ← Nat.shiftRight_eq_div_pow, ← Nat.shiftRight_eq_div_pow, Nat.shiftRight_xor_distrib]
  rw [h, xor_mod2, Nat.add_mod]
end Mine
end

section
open PySem PySem.W PyProof.Rows PySem.Spec PySem.Calls
namespace Mine
noncomputable def hitN (x b : Nat) : Bool := Nat.beq (Nat.land x b) b
noncomputable def scanN (x : Nat) : List (Nat × Nat) → Nat
  | [] => 45
  | (b, c) :: r => cond (hitN x b) c (scanN x r)
noncomputable def okSign (m i : Nat) : Bool := Nat.beq (scanN m (tabs.getD (i + 1) [])) (sgSign m i)
theorem and_pow (m j : Nat) : m &&& 2 ^ j = (m.testBit j).toNat * 2 ^ j := by
  refine Nat.eq_of_testBit_eq fun k => ?_
  rw [Nat.testBit_and, Nat.testBit_two_pow]
  by_cases e : j = k
  · subst e
    rw [decide_eq_true rfl, Bool.and_true]
    cases h : m.testBit j with
    | true => rw [Bool.toNat_true, Nat.one_mul, Nat.testBit_two_pow_self]
    | false => rw [Bool.toNat_false, Nat.zero_mul, Nat.zero_testBit]
  · rw [decide_eq_false e, Bool.and_false]
    cases h : m.testBit j with
    | true => rw [Bool.toNat_true, Nat.one_mul, Nat.testBit_two_pow, decide_eq_false e]
    | false => rw [Bool.toNat_false, Nat.zero_mul, Nat.zero_testBit]
/-- the two bits that the sign at i looks at -/
noncomputable def twoM (i : Nat) : Nat := 2 ^ (8 - i) ||| 2 ^ (11 - i / 3)
theorem ok_two : ∀ i < 9, ∀ x y : Bool, okSign ((x.toNat * 2 ^ (8 - i)) ||| (y.toNat * 2 ^ (11 - i / 3))) i = true := by decide +kernel
theorem two_has : ∀ i < 9, ∀ p ∈ tabs.getD (i + 1) [], twoM i &&& p.1 = p.1 := by decide +kernel
theorem two_bit : ∀ i < 9, (twoM i).testBit (8 - i) = true ∧ (twoM i).testBit (11 - i / 3) = true := by decide +kernel
theorem scan_and (m M : Nat) : ∀ {tab : List (Nat × Nat)}, (∀ p ∈ tab, M &&& p.1 = p.1) → scanN (m &&& M) tab = scanN m tab
  | [], _ => rfl
  | (b, c) :: r, h => by
    have e : hitN (m &&& M) b = hitN m b := by
      show Nat.beq ((m &&& M) &&& b) b = Nat.beq (m &&& b) b
      rw [Nat.and_assoc, h (b, c) (.head _)]
    simp only [scanN, e, scan_and m M (tab := r) fun p hp => h p (.tail _ hp)]
theorem bit_and {m M j : Nat} (h : M.testBit j = true) : bitOf (m &&& M) j = bitOf m j := by
  unfold bitOf
  rw [← Nat.toNat_testBit, ← Nat.toNat_testBit, Nat.testBit_and, h, Bool.and_true]
theorem ok_sign (m : Nat) {i : Nat} (hi : i < 9) : scanN m (tabs.getD (i + 1) []) = sgSign m i := by
  have h := Nat.eq_of_beq_eq_true (ok_two i hi (m.testBit (8 - i)) (m.testBit (11 - i / 3)))
  have e : (m.testBit (8 - i)).toNat * 2 ^ (8 - i) ||| (m.testBit (11 - i / 3)).toNat * 2 ^ (11 - i / 3) = m &&& twoM i := by
    unfold twoM
    rw [Nat.and_or_distrib_left, and_pow, and_pow]
  rw [e, scan_and m (twoM i) (two_has i hi)] at h
  rw [h]
  unfold sgSign
  rw [bit_and (two_bit i hi).1, bit_and (two_bit i hi).2]
end Mine
end

section
open PySem PySem.W PyProof.Rows PySem.Spec PySem.Calls
namespace Mine
theorem and_low {x b : Nat} (h : b < 4096) : x &&& b = (x % 4096) &&& b := by
  have e : b = b % 2 ^ 12 := (Nat.mod_eq_of_lt (by simpa using h)).symm
  have h1 : (x &&& b) % 2 ^ 12 = (x % 2 ^ 12) &&& (b % 2 ^ 12) := Nat.and_mod_two_pow
  have h2 : (x &&& b) % 2 ^ 12 = x &&& b := Nat.mod_eq_of_lt (Nat.lt_of_le_of_lt Nat.and_le_right (by simpa using h))
  rw [h2, ← e] at h1
  exact h1
theorem scan_nat {i x : Nat} (hi : i ≠ 0) : ∀ {tab : List (Nat × Nat)}, (∀ p ∈ tab, p.1 < 4096) → scan i (x : Int) tab = scanN (x % 4096) tab
  | [], _ => by simp [scan, scanN, hi]
  | (b, c) :: r, h => by
    have hb := h (b, c) (.head _)
    have ih := scan_nat (x := x) hi (tab := r) fun p hp => h p (.tail _ hp)
    have e : hitB i (x : Int) b = hitN (x % 4096) b := by
      unfold hitB hitN
      rw [if_neg hi, bitAnd_nat, and_low hb]
      show decide (((x % 4096 &&& b : Nat) : Int) = (b : Int)) = Nat.beq (x % 4096 &&& b) b
      by_cases g : (x % 4096 &&& b) = b
      · rw [g]; simp
      · rw [decide_eq_false (by omega)]
        cases hq : Nat.beq (x % 4096 &&& b) b with
        | false => rfl
        | true => exact absurd (Nat.eq_of_beq_eq_true hq) g
    simp only [scan, scanN, e, ih]
    cases hitN (x % 4096) b <;> rfl
theorem tab_small : ∀ i < 9, ∀ p ∈ tabs.getD (i + 1) [], p.1 < 4096 := by decide
theorem sgSign_low {kd m k : Nat} (hk : k < 9) : sgSign (kd * 4096 + m) k = sgSign m k := by
  have hb : ∀ j, j < 12 → bitOf (kd * 4096 + m) j = bitOf m j := fun j hj => by
    unfold bitOf
    have e : (4096 : Nat) = 2 ^ j * (2 * 2 ^ (11 - j)) := by
      rw [← Nat.pow_succ', ← Nat.pow_add]
      have : j + (11 - j).succ = 12 := by omega
      rw [this]
    rw [e, ← Nat.mul_assoc, Nat.mul_comm kd, Nat.mul_assoc, Nat.mul_add_div (Nat.two_pow_pos j)]
    have : kd * (2 * 2 ^ (11 - j)) = 2 * (kd * 2 ^ (11 - j)) := by rw [Nat.mul_left_comm]
    rw [this]; omega
  unfold sgSign
  rw [hb (11 - k / 3) (by omega), hb (8 - k) (by omega)]
theorem fm_sign {kd m i : Nat} (hm : m < 4096) (hi : i < 9) : fmSign ((kd * 4096 + m : Nat) : Int) (i + 1) = sgSign m i := by
  unfold fmSign
  rw [scan_nat (Nat.succ_ne_zero i) (tab_small i hi)]
  have e : (kd * 4096 + m) % 4096 = m := by omega
  rw [e]
  exact ok_sign m hi
theorem and_high {kd m : Nat} (hk : kd < 16) (hm : m < 4096) : (kd * 4096 + m) &&& 61440 = kd * 4096 := by
  have h1 : ((kd * 4096 + m) &&& 61440) % 2 ^ 12 = ((kd * 4096 + m) % 2 ^ 12) &&& (61440 % 2 ^ 12) := Nat.and_mod_two_pow
  have h2 : ((kd * 4096 + m) &&& 61440) / 2 ^ 12 = ((kd * 4096 + m) / 2 ^ 12) &&& (61440 / 2 ^ 12) := by
    rw [← Nat.shiftRight_eq_div_pow, ← Nat.shiftRight_eq_div_pow, ← Nat.shiftRight_eq_div_pow, Nat.shiftRight_and_distrib]
  have e0 : (61440 : Nat) % 2 ^ 12 = 0 := rfl
  have e1 : (61440 : Nat) / 2 ^ 12 = 15 := rfl
  have e2 : (kd * 4096 + m) / 2 ^ 12 = kd := by show (kd * 4096 + m) / 4096 = kd; omega
  have e3 : ∀ k < 16, k &&& 15 = k := by decide
  rw [e0, Nat.and_zero] at h1
  rw [e1, e2, e3 kd hk] at h2
  have d := Nat.div_add_mod ((kd * 4096 + m) &&& 61440) (2 ^ 12)
  rw [h1, h2] at d
  omega
theorem and_mode {kd m : Nat} (hm : m < 4096) : (kd * 4096 + m) &&& 4095 = m := by
  have h := and_low (x := kd * 4096 + m) (b := 4095) (by decide)
  have e : (kd * 4096 + m) % 4096 = m := by omega
  rw [h, e]
  have := Nat.and_two_pow_sub_one_eq_mod m 12
  rw [show (2 ^ 12 - 1 : Nat) = 4095 from rfl, show (2 ^ 12 : Nat) = 4096 from rfl, Nat.mod_eq_of_lt hm] at this
  exact this
theorem fm_kind {kd m : Nat} (hk : kd ∈ [8, 4, 10, 2, 6, 1, 12, 3]) (hm : m < 4096) : fmSign ((kd * 4096 + m : Nat) : Int) 0 = kindCh kd := by
  have h16 : kd < 16 := by
    have : ∀ k ∈ [8, 4, 10, 2, 6, 1, 12, 3], k < 16 := by decide
    exact this kd hk
  have e := and_high h16 hm
  have hh : ∀ b, hitB 0 ((kd * 4096 + m : Nat) : Int) b = decide (kd * 4096 = b) := fun b => by
    unfold hitB
    rw [if_pos rfl]
    have e2 : Builtin.bitAnd ((kd * 4096 + m : Nat) : Int) 61440 = ((kd * 4096 : Nat) : Int) := by
      rw [show (61440 : Int) = ((61440 : Nat) : Int) from rfl, bitAnd_nat, e]
    rw [e2]
    by_cases g : kd * 4096 = b
    · subst g; simp
    · rw [decide_eq_false g, decide_eq_false (by omega)]
  unfold fmSign
  show scan 0 _ [(40960, 108), (49152, 115), (32768, 45), (24576, 98), (16384, 100), (8192, 99), (4096, 112)] = kindCh kd
  simp only [scan, hh]
  have : ∀ k ∈ [8, 4, 10, 2, 6, 1, 12, 3], (if decide (k * 4096 = 40960) = true then 108 else if decide (k * 4096 = 49152) = true then 115 else if decide (k * 4096 = 32768) = true then 45 else if decide (k * 4096 = 24576) = true then 98 else if decide (k * 4096 = 16384) = true then 100 else if decide (k * 4096 = 8192) = true then 99 else if decide (k * 4096 = 4096) = true then 112 else if True then 63 else 45) = kindCh k := by decide
  simpa using this kd hk
theorem fm_sg {kd m : Nat} (hk : kd ∈ [8, 4, 10, 2, 6, 1, 12, 3]) (hm : m < 4096) : fmChars ((kd * 4096 + m : Nat) : Int) = sgChars (kd * 4096 + m) := by
  unfold fmChars sgChars sgPre
  have e : (kd * 4096 + m) / 4096 = kd := by omega
  rw [e]
  show (List.range' 0 10).map _ = _
  rw [← List.range_eq_range', List.range_succ_eq_map, List.map_cons, fm_kind hk hm, List.map_map]
  congr 1
  refine List.map_congr_left fun k hk' => ?_
  have hk9 : k < 9 := List.mem_range.mp hk'
  show fmSign _ (k + 1) = _
  rw [fm_sign hm hk9, sgSign_low hk9]
end Mine
end

section
open PySem PySem.W PyProof.Rows PySem.Spec PySem.Calls
namespace Mine
theorem cost_01 (c x : Nat) : 0 ≤ cost c x ∧ cost c x ≤ 2 := by
  unfold cost subC
  split
  · omega
  · split <;> omega
theorem inner_cell (c : Nat) : ∀ (a : List Nat) (row : List Int) (d r : Int) (k : Nat), row.length = a.length → k < a.length →
    (innerRow c a row d r).getD k 0 = min (min (if k = 0 then r else (innerRow c a row d r).getD (k - 1) 0) (row.getD k 0) + 2) ((if k = 0 then d else row.getD (k - 1) 0) + cost c (a.getD k 0))
  | [], _, _, _, _, _, hk => by simp at hk
  | x :: a, [], _, _, _, h, _ => by simp at h
  | x :: a, o :: row, d, r, 0, _, _ => by simp [innerRow]
  | x :: a, o :: row, d, r, k + 1, h, hk => by
    have ih := inner_cell c a row o (min (min r o + 2) (d + cost c x)) k (by simpa using h) (by simpa using hk)
    simp only [innerRow, List.getD_cons_succ]
    rw [ih]
    cases k with
    | zero => simp [innerRow]
    | succ k => simp [innerRow]
theorem inner_res (c : Nat) : ∀ (a : List Nat) (row : List Int) (d r : Int), row.length = a.length → 0 < a.length → innerRes c a row d r = (innerRow c a row d r).getD (a.length - 1) 0
  | [], _, _, _, _, hk => by simp at hk
  | x :: a, [], _, _, h, _ => by simp at h
  | [x], [o], d, r, _, _ => by simp [innerRow, innerRes]
  | [x], o :: p :: row, d, r, h, _ => by simp at h
  | x :: y :: a, o :: row, d, r, h, _ => by
    have ih := inner_res c (y :: a) row o (min (min r o + 2) (d + cost c x)) (by simpa using h) (by simp)
    rw [innerRes, ih, innerRow]
    simp
theorem inner_min_le (c : Nat) : ∀ (a : List Nat) (row : List Int) (d r mn : Int), innerMin c a row d r mn ≤ mn ∧ ∀ k, row.length = a.length → k < a.length → innerMin c a row d r mn ≤ (innerRow c a row d r).getD k 0
  | [], _, _, _, mn => by simp [innerMin]
  | x :: a, [], _, _, mn => ⟨by simp [innerMin], fun k h => by simp at h⟩
  | x :: a, o :: row, d, r, mn => by
    obtain ⟨h1, h2⟩ := inner_min_le c a row o (min (min r o + 2) (d + cost c x)) (if min (min r o + 2) (d + cost c x) < mn then min (min r o + 2) (d + cost c x) else mn)
    refine ⟨?_, fun k h hk => ?_⟩
    · rw [innerMin]
      refine Int.le_trans h1 ?_
      split <;> omega
    · rw [innerMin]
      cases k with
      | zero =>
        refine Int.le_trans h1 ?_
        simp only [innerRow, List.getD_cons_zero]
        split <;> omega
      | succ k => exact h2 k (by simpa using h) (by simpa using hk)
/-- the place by place costs of the first i -/
noncomputable def hs (a b : List Nat) : Nat → Int
  | 0 => 0
  | i + 1 => hs a b i + cost (b.getD i 0) (a.getD i 0)
theorem hs_nonneg (a b : List Nat) : ∀ i, 0 ≤ hs a b i
  | 0 => Int.le_refl _
  | i + 1 => Int.add_nonneg (hs_nonneg a b i) (cost_01 _ _).1
theorem hs_mono (a b : List Nat) {i j : Nat} (h : i ≤ j) : hs a b i ≤ hs a b j := by
  induction h with
  | refl => exact Int.le_refl _
  | step _ ih => exact Int.le_trans ih (Int.le_add_of_nonneg_right (cost_01 _ _).1)
noncomputable def DpInv (a b : List Nat) (i : Nat) (row : List Int) : Prop := row.length = a.length ∧ (∀ k, k < a.length → (if k + 1 = i then min 4 (hs a b i) else 2) ≤ row.getD k 0) ∧ ∀ k, k < a.length → k + 1 = i → row.getD k 0 ≤ hs a b i
theorem dp_step {a b : List Nat} {i : Nat} {row : List Int} (h : DpInv a b i row) : DpInv a b (i + 1) (innerRow (b.getD i 0) a row (2 * i) (2 * i)) := by
  obtain ⟨h1, h2, h3⟩ := h
  have hn := hs_nonneg a b i
  have row0 : ∀ k, k < a.length → 0 ≤ row.getD k 0 := fun k hk => by
    have := h2 k hk
    split at this <;> omega (config := {})
  have low : ∀ k, k < a.length → (if k + 1 = i + 1 then min 4 (hs a b (i + 1)) else 2) ≤ (innerRow (b.getD i 0) a row (2 * i) (2 * i)).getD k 0 := by
    intro k
    induction k with
    | zero =>
      intro hk
      rw [inner_cell _ _ _ _ _ 0 h1 hk]
      simp only [if_true]
      have c0 := cost_01 (b.getD i 0) (a.getD 0 0)
      have r0 := row0 0 hk
      have r2 := h2 0 hk
      by_cases hi : i = 0
      · subst hi
        rw [if_neg (by omega (config := {}))] at r2
        rw [if_pos rfl]
        have e1 : hs a b (0 + 1) = 0 + cost (b.getD 0 0) (a.getD 0 0) := rfl
        omega (config := {})
      · rw [if_neg (by omega (config := {}))]
        omega (config := {})
    | succ k ih =>
      intro hk
      have ih := ih (by omega (config := {}))
      rw [inner_cell _ _ _ _ _ (k + 1) h1 hk]
      simp only [Nat.add_one_ne_zero, if_false, Nat.add_sub_cancel]
      have c0 := cost_01 (b.getD i 0) (a.getD (k + 1) 0)
      have r0 := row0 (k + 1) hk
      have r1 := h2 (k + 1) hk
      have r2 := h2 k (by omega (config := {}))
      have hp : 0 ≤ (innerRow (b.getD i 0) a row (2 * i) (2 * i)).getD k 0 := by
        have := hs_nonneg a b (i + 1)
        split at ih <;> omega (config := {})
      by_cases hi : k + 1 = i
      · subst hi
        rw [if_neg (by omega (config := {}))] at ih r1
        simp only [if_true] at r2 ⊢
        have : hs a b (k + 1 + 1) = hs a b (k + 1) + cost (b.getD (k + 1) 0) (a.getD (k + 1) 0) := rfl
        omega (config := {})
      · rw [if_neg (by omega (config := {}))] at r2 ⊢
        omega (config := {})
  refine ⟨innerRow_length _ _ _ _ _ h1, low, fun k hk e => ?_⟩
  obtain rfl : k = i := by omega (config := {})
  rw [inner_cell _ _ _ _ _ k h1 hk]
  have e2 : hs a b (k + 1) = hs a b k + cost (b.getD k 0) (a.getD k 0) := rfl
  cases k with
  | zero =>
    have e3 : hs a b 0 = 0 := rfl
    rw [if_pos rfl, if_pos rfl]
    omega (config := {})
  | succ k =>
    have := h3 k (by omega (config := {})) rfl
    simp only [Nat.add_one_ne_zero, if_false, Nat.add_sub_cancel]
    omega (config := {})
end Mine
end

section
open PySem PySem.W PyProof.Rows PySem.Spec PySem.Calls
namespace Mine
theorem cost_comm (c x : Nat) : cost c x = cost x c := by
  unfold cost subC
  by_cases h : S [c] = S [x]
  · rw [if_pos h, if_pos h.symm]
  · have h' : ¬S [x] = S [c] := fun g => h g.symm
    rw [if_neg h, if_neg h']
    by_cases g : Txt.lower (S [c]) = Txt.lower (S [x])
    · rw [if_pos g, if_pos g.symm]
    · have g' : ¬Txt.lower (S [x]) = Txt.lower (S [c]) := fun k => g k.symm
      rw [if_neg g, if_neg g']
theorem cost_self (c : Nat) : cost c c = 0 := by unfold cost subC; rw [if_pos rfl]
theorem dp_init (a b : List Nat) : DpInv a b 0 (rowInit a.length) := by
  refine ⟨rowInit_length _, fun k hk => ?_, fun k _ h => by omega⟩
  rw [if_neg (by omega)]
  unfold rowInit
  have : ((List.range a.length).map fun (i : Nat) => 2 * (i : Int) + 2).getD k 0 = 2 * (k : Int) + 2 := by
    rw [List.getD_eq_getElem?_getD, List.getElem?_map, List.getElem?_range hk]; rfl
  rw [this]; omega
theorem dp_go {a b : List Nat} (hl : b.length = a.length) (hn : 0 < a.length) (mc : Int) : ∀ (bs : List Nat) (j : Nat) (row : List Int) (res : Int), b.drop j = bs → j ≤ b.length → DpInv a b j row → (0 < j → res = row.getD (a.length - 1) 0) →
    (dpGo a mc bs row j res = mc + 1 ∧ mc < hs a b a.length) ∨ (min 4 (hs a b a.length) ≤ dpGo a mc bs row j res ∧ dpGo a mc bs row j res ≤ hs a b a.length)
  | [], j, row, res, hd, hj, hI, hr => by
    have hj2 : j = a.length := by
      have := congrArg List.length hd
      rw [List.length_drop] at this
      simp at this; omega
    subst hj2
    right
    rw [dpGo, hr hn]
    have h1 := hI.2.1 (a.length - 1) (by omega)
    rw [if_pos (by omega)] at h1
    exact ⟨h1, hI.2.2 (a.length - 1) (by omega) (by omega)⟩
  | c :: bs, j, row, res, hd, hj, hI, hr => by
    have hlt : j < b.length := by
      rcases Nat.lt_or_ge j b.length with h | h
      · exact h
      · rw [List.drop_of_length_le h] at hd; cases hd
    have hc : b.getD j 0 = c ∧ b.drop (j + 1) = bs := by
      have e := drop_cons_getD 0 b j hlt
      rw [hd] at e
      injection e with e1 e2
      exact ⟨e1.symm, e2.symm⟩
    have hS := dp_step hI
    rw [hc.1] at hS
    rw [dpGo]
    split
    · rename_i hb
      left
      refine ⟨rfl, ?_⟩
      have hm := (inner_min_le c a row (2 * j) (2 * j) bigN).2 j hI.1 (by omega)
      have hu := hS.2.2 j (by omega) rfl
      have := hs_mono a b (show j + 1 ≤ a.length by omega)
      omega
    · exact dp_go hl hn mc bs (j + 1) _ _ hc.2 hlt hS fun _ => inner_res c a row _ _ hI.1 hn
theorem levCore_even {a b : List Nat} (hl : b.length = a.length) (hn : 0 < a.length) {mc : Int} (hm : 0 ≤ mc) : (levCore a b mc = mc + 1 ∧ mc < hs a b a.length) ∨ (min 4 (hs a b a.length) ≤ levCore a b mc ∧ levCore a b mc ≤ hs a b a.length) := by
  have hsw : sw a b = (a, b) := by unfold sw; rw [if_neg (by omega)]
  rw [levCore_dp (List.ne_nil_of_length_pos hn) (List.ne_nil_of_length_pos (by omega)) (by rw [hsw]; simp only; omega), hsw]
  exact dp_go hl hn mc b 0 _ _ rfl (Nat.zero_le _) (dp_init a b) fun h => absurd h (Nat.lt_irrefl 0)
/-- the middles of two texts -/
theorem levF_mid {x y : List Nat} (mc : Int) (hxy : x ≠ y) (hl : x.length = y.length) : ∃ p u v s, x = p ++ (u ++ s) ∧ y = p ++ (v ++ s) ∧ u.length = v.length ∧ levF x y mc = levCore u v mc := by
  unfold levF
  rw [if_neg hxy]
  obtain ⟨a, ha⟩ : ∃ a, a = x.drop (lcp x y) := ⟨_, rfl⟩
  obtain ⟨b, hb⟩ : ∃ b, b = y.drop (lcp x y) := ⟨_, rfl⟩
  rw [← ha, ← hb]
  have lab : a.length = b.length := by rw [ha, hb, List.length_drop, List.length_drop, hl]
  have hs1 := lcs_le_left a b
  have hs2 := lcs_le_right a b
  have ex : x = x.take (lcp x y) ++ a := by rw [ha, List.take_append_drop]
  have ey : y = x.take (lcp x y) ++ b := by rw [lcp_take, hb, List.take_append_drop]
  have hsuf : a.drop (a.length - lcs a b) = b.drop (b.length - lcs a b) := by
    have h := lcp_take a.reverse b.reverse
    have h2 := congrArg List.reverse h
    rw [List.reverse_take, List.reverse_take] at h2
    simpa [lcs] using h2
  have cut : ∀ z : List Nat, cutEnd z (-(lcs a b : Int)) = z.take (z.length - lcs a b) := fun z => by
    unfold cutEnd; congr 1; omega
  refine ⟨x.take (lcp x y), cutEnd a (-(lcs a b : Int)), cutEnd b (-(lcs a b : Int)), a.drop (a.length - lcs a b), ?_, ?_, ?_, rfl⟩
  · rw [cut, List.take_append_drop]; exact ex
  · rw [cut, hsuf, List.take_append_drop]; exact ey
  · rw [cutEnd_length, cutEnd_length, lab]
end Mine
end

section
open PySem PySem.W PyProof.Rows PySem.Spec PySem.Calls
namespace Mine
noncomputable def sumZ (x y : List Nat) : Int := ((x.zip y).map fun p => cost p.1 p.2).sum
theorem sumZ_append {x x' y y' : List Nat} (h : x.length = y.length) : sumZ (x ++ x') (y ++ y') = sumZ x y + sumZ x' y' := by
  unfold sumZ
  rw [List.zip_append h, List.map_append, List.sum_append]
theorem sumZ_self : ∀ x : List Nat, sumZ x x = 0
  | [] => rfl
  | a :: x => by
    have := sumZ_self x
    unfold sumZ at this ⊢
    rw [List.zip_cons_cons, List.map_cons, List.sum_cons, this, cost_self]; rfl
theorem sumZ_comm : ∀ x y : List Nat, sumZ x y = sumZ y x
  | [], y => by unfold sumZ; simp
  | a :: x, [] => by unfold sumZ; simp
  | a :: x, b :: y => by
    have := sumZ_comm x y
    unfold sumZ at this ⊢
    rw [List.zip_cons_cons, List.map_cons, List.sum_cons, List.zip_cons_cons, List.map_cons, List.sum_cons, this, cost_comm a b]
theorem take_getD {x : List Nat} {i : Nat} (h : i < x.length) : x.take (i + 1) = x.take i ++ [x.getD i 0] := by
  rw [List.take_add_one, List.getD_eq_getElem?_getD, List.getElem?_eq_getElem h]; rfl
theorem hs_sum {a b : List Nat} (hl : b.length = a.length) : ∀ i, i ≤ a.length → hs a b i = sumZ (a.take i) (b.take i)
  | 0, _ => by simp [hs, sumZ]
  | i + 1, h => by
    rw [take_getD (by omega), take_getD (by omega), sumZ_append (by rw [List.length_take, List.length_take, hl]), ← hs_sum hl i (by omega)]
    show hs a b i + cost (b.getD i 0) (a.getD i 0) = _
    rw [cost_comm]
    simp [sumZ]
theorem hs_all {a b : List Nat} (hl : b.length = a.length) : hs a b a.length = sumZ a b := by
  rw [hs_sum hl _ (Nat.le_refl _), List.take_length, ← hl, List.take_length]
theorem levF_even {x y : List Nat} (hl : x.length = y.length) {mc : Int} (hm : 0 ≤ mc) : (levF x y mc = mc + 1 ∧ mc < sumZ x y) ∨ (min 4 (sumZ x y) ≤ levF x y mc ∧ levF x y mc ≤ sumZ x y) := by
  by_cases hxy : x = y
  · subst hxy
    right
    unfold levF
    rw [if_pos rfl, sumZ_self]
    omega
  · obtain ⟨p, u, v, s, rfl, rfl, huv, e⟩ := levF_mid mc hxy hl
    have hu : 0 < u.length := by
      rcases Nat.eq_zero_or_pos u.length with h | h
      · have h1 := List.length_eq_zero_iff.mp h
        have h2 := List.length_eq_zero_iff.mp (huv ▸ h)
        subst h1 h2
        exact absurd rfl hxy
      · exact h
    have hz : sumZ (p ++ (u ++ s)) (p ++ (v ++ s)) = sumZ u v := by
      rw [sumZ_append rfl, sumZ_append huv, sumZ_self, sumZ_self]; omega
    have := levCore_even (a := u) (b := v) huv.symm hu hm
    rw [hs_all huv.symm] at this
    rw [e, hz]
    exact this
theorem inner_min_ge (c : Nat) {t : Int} : ∀ (a : List Nat) (row : List Int) (d r mn : Int), row.length = a.length → t ≤ mn → (∀ k, k < a.length → t ≤ (innerRow c a row d r).getD k 0) → t ≤ innerMin c a row d r mn
  | [], _, _, _, mn, _, h, _ => by simpa [innerMin] using h
  | x :: a, [], _, _, mn, h, _, _ => by simp at h
  | x :: a, o :: row, d, r, mn, hl, h, hk => by
    rw [innerMin]
    have h0 := hk 0 (by simp)
    simp only [innerRow, List.getD_cons_zero] at h0
    refine inner_min_ge c a row o _ _ (by simpa using hl) (by split <;> omega) fun k hk' => ?_
    have := hk (k + 1) (by simpa using hk')
    simpa only [innerRow, List.getD_cons_succ] using this
theorem cost_pos {c x : Nat} (h : c ≠ x) : 1 ≤ cost c x := by
  unfold cost subC
  rw [if_neg (by rw [S_inj]; simpa using h)]
  split <;> omega
/-- unlike texts of one length with the bound nought: one -/
theorem levF_nought {x y : List Nat} (hxy : x ≠ y) (hl : x.length = y.length) : levF x y 0 = 1 := by
  unfold levF
  rw [if_neg hxy]
  obtain ⟨k, hk⟩ : ∃ k, k = lcp x y := ⟨_, rfl⟩
  rw [← hk]
  obtain ⟨n, hn⟩ : ∃ n, n = lcs (x.drop k) (y.drop k) := ⟨_, rfl⟩
  rw [← hn]
  have hn1 := lcs_le_left (x.drop k) (y.drop k)
  have kx : k ≤ x.length := by rw [hk]; exact lcp_le_left x y
  have key : n < (x.drop k).length := by
    rcases Nat.lt_or_ge n (x.drop k).length with h | h
    · exact h
    · exfalso
      have e : n = (x.drop k).length := by omega
      have h := lcp_take (x.drop k).reverse (y.drop k).reverse
      have e2 : lcp (x.drop k).reverse (y.drop k).reverse = (x.drop k).length := by rw [← e, hn]; rfl
      rw [e2, List.take_of_length_le (by simp), List.take_of_length_le (by simp; omega)] at h
      have h3 := List.reverse_inj.mp h
      apply hxy
      rw [← List.take_append_drop k x, ← List.take_append_drop k y, h3, hk, lcp_take]
  rw [List.length_drop] at key
  have hne : x.getD k 0 ≠ y.getD k 0 := fun h => by
    have := (lcp_step x y k (by omega) (by omega) (by omega)).mp h
    omega
  have cut : ∀ z : List Nat, cutEnd z (-(n : Int)) = z.take (z.length - n) := fun z => by
    unfold cutEnd; congr 1; omega
  obtain ⟨u, hu⟩ : ∃ u, u = cutEnd (x.drop k) (-(n : Int)) := ⟨_, rfl⟩
  obtain ⟨v, hv⟩ : ∃ v, v = cutEnd (y.drop k) (-(n : Int)) := ⟨_, rfl⟩
  rw [← hu, ← hv]
  have lu : u.length = x.length - k - n := by rw [hu, cutEnd_length, List.length_drop]; omega
  have lv : v.length = x.length - k - n := by rw [hv, cutEnd_length, List.length_drop]; omega
  have hd : ∀ z : List Nat, z.length = x.length → (cutEnd (z.drop k) (-(n : Int))).getD 0 0 = z.getD k 0 := fun z hz => by
    rw [cut, List.getD_eq_getElem?_getD, List.getElem?_take, if_pos (by rw [List.length_drop]; omega), List.getElem?_drop, List.getD_eq_getElem?_getD]; rfl
  have h0 : u.getD 0 0 ≠ v.getD 0 0 := by rw [hu, hv, hd x rfl, hd y hl.symm]; exact hne
  have hsw : sw u v = (u, v) := by unfold sw; rw [if_neg (by omega)]
  rw [levCore_dp (List.ne_nil_of_length_pos (by omega)) (List.ne_nil_of_length_pos (by omega)) (by rw [hsw]; simp only; omega), hsw]
  obtain ⟨c, bs, rfl⟩ : ∃ c bs, v = c :: bs := by
    cases v with
    | nil => simp at lv; omega
    | cons c bs => exact ⟨c, bs, rfl⟩
  have hS := dp_step (dp_init u (c :: bs))
  have hr : rowInit u.length = rowInit u.length := rfl
  show dpGo u 0 (c :: bs) (rowInit u.length) 0 0 = 1
  rw [dpGo, if_pos]
  · rfl
  · have hS2 := hS.2.1
    have c1 : 1 ≤ hs u (c :: bs) (0 + 1) := by
      have e1 : hs u (c :: bs) (0 + 1) = 0 + cost c (u.getD 0 0) := rfl
      have := cost_pos (c := c) (x := u.getD 0 0) (fun g => h0 g.symm)
      omega
    have := inner_min_ge c (t := 1) u (rowInit u.length) (2 * (0 : Nat)) (2 * (0 : Nat)) bigN (rowInit_length _) (by decide) fun k hk => by
      have h := hS2 k hk
      refine Int.le_trans ?_ h
      split <;> omega
    show (0 : Int) < _
    omega
end Mine
end

section
open PySem PySem.W PyProof.Rows PySem.Spec PySem.Calls
namespace Mine
theorem levF_self (x : List Nat) (mc : Int) : levF x x mc = 0 := by unfold levF; rw [if_pos rfl]
theorem lcp_pre : ∀ a b : List Nat, lcp a (a ++ b) = a.length
  | [], b => by cases b <;> rfl
  | x :: a, b => by simp [lcp, lcp_pre a b]
theorem levF_pre {a b : List Nat} (hb : b ≠ []) (mc : Int) : levF a (a ++ b) mc = 2 * (b.length : Int) := by
  unfold levF
  rw [if_neg (by intro h; have := congrArg List.length h; rw [List.length_append] at this; exact hb (List.length_eq_zero_iff.mp (by omega))), lcp_pre]
  have e1 : a.drop a.length = [] := List.drop_length ..
  have e2 : (a ++ b).drop a.length = b := by simp
  rw [e1, e2]
  have e3 : lcs [] b = 0 := by unfold lcs; cases b.reverse <;> rfl
  rw [e3]
  rw [levCore_nil (.inl (by simp [cutEnd]))]
  simp [cutEnd]
theorem star_go {mc : Int} : ∀ (bs : List Nat) (j : Nat) (o res : Int), (∀ c ∈ bs, cost c 42 = 2) → 2 * (j : Int) ≤ o → 2 * ((j : Int) + bs.length) ≤ mc → bs ≠ [] → dpGo [42] mc bs [o] j res = 2 * ((j : Int) + bs.length)
  | [], _, _, _, _, _, _, h => absurd rfl h
  | c :: bs, j, o, res, hc, ho, hm, _ => by
    have h2 := hc c (.head _)
    have e : min (min (2 * (j : Int)) o + 2) (2 * (j : Int) + cost c 42) = 2 * (j : Int) + 2 := by rw [h2]; omega
    rw [dpGo]
    simp only [innerMin, innerRow, innerRes, e]
    have hb : (2 * (j : Int) + 2) ≤ mc := by rw [List.length_cons] at hm; omega
    rw [if_neg (by split <;> simp only [bigN] at * <;> omega)]
    cases bs with
    | nil => simp only [dpGo, List.length_cons, List.length_nil]; omega
    | cons d bs =>
      rw [star_go (d :: bs) (j + 1) _ _ (fun c h => hc c (.tail _ h)) (by omega) (by simp only [List.length_cons] at hm ⊢; omega) (by simp)]
      simp only [List.length_cons]; omega
theorem levF_star {x : List Nat} (hx : x.length = 10) (hc : ∀ c ∈ x, cost c 42 = 2) {mc : Int} : (mc = 99 → levF [42] x mc = 20) ∧ (mc = 17 → levF [42] x mc = 18) := by
  have hne : ∀ c ∈ x, c ≠ 42 := fun c h e => by
    have := hc c h
    rw [e, cost_self] at this; omega
  have hz : ∀ y : List Nat, (∀ c ∈ y, c ≠ 42) → lcp [42] y = 0 := fun y hy => by
    cases y with
    | nil => rfl
    | cons a y => simp [lcp, (hy a (.head _)).symm]
  have e1 : lcp [42] x = 0 := hz x hne
  have e2 : lcs [42] x = 0 := by
    unfold lcs
    exact hz _ fun c h => hne c (by simpa using h)
  have e3 : levF [42] x mc = levCore [42] x mc := by
    unfold levF
    rw [if_neg (by intro h; rw [← h] at hx; simp at hx), e1]
    simp only [List.drop_zero]
    rw [e2]
    have : ∀ z : List Nat, cutEnd z (-((0 : Nat) : Int)) = z := fun z => cutEnd_0 z
    rw [this, this]
  have hsw : sw [42] x = ([42], x) := by unfold sw; rw [if_neg (by show ¬x.length < 1; omega)]
  have hxn : x ≠ [] := by intro h; rw [h] at hx; simp at hx
  constructor
  · rintro rfl
    rw [e3, levCore_dp (by simp) hxn (by rw [hsw]; show ¬((x.length : Int) - ((1 : Nat) : Int)) * 2 > 99; omega), hsw]
    have := star_go (mc := 99) x 0 2 0 hc (by decide) (by rw [hx]; decide) hxn
    have e4 : rowInit [42].length = [2] := rfl
    rw [e4, this, hx]; rfl
  · rintro rfl
    rw [e3, levCore_far (by simp) hxn (by rw [hsw]; show ((x.length : Int) - ((1 : Nat) : Int)) * 2 > 17; omega)]; rfl
/-- the shifted text: at most four -/
noncomputable def UpInv (a : List Nat) (i : Nat) (row : List Int) : Prop := i < a.length → row.getD i 0 ≤ 2
theorem up_go {a b : List Nat} (hl : b.length = a.length) (hn : 0 < a.length) (hsh : ∀ i, i + 1 < a.length → b.getD i 0 = a.getD (i + 1) 0) (mc : Int) : ∀ (bs : List Nat) (j : Nat) (row : List Int) (res : Int), b.drop j = bs → j ≤ b.length → DpInv a b j row → UpInv a j row → (j = a.length → res ≤ 4) →
    (dpGo a mc bs row j res = mc + 1 ∧ mc < hs a b a.length) ∨ dpGo a mc bs row j res ≤ 4
  | [], j, row, res, hd, hj, hI, hU, hr => by
    have hj2 : j = a.length := by
      have := congrArg List.length hd
      rw [List.length_drop] at this
      simp at this; omega
    right
    rw [dpGo]; exact hr hj2
  | c :: bs, j, row, res, hd, hj, hI, hU, hr => by
    have hlt : j < b.length := by
      rcases Nat.lt_or_ge j b.length with h | h
      · exact h
      · rw [List.drop_of_length_le h] at hd; cases hd
    have hc : b.getD j 0 = c ∧ b.drop (j + 1) = bs := by
      have e := drop_cons_getD 0 b j hlt
      rw [hd] at e
      injection e with e1 e2
      exact ⟨e1.symm, e2.symm⟩
    have hS := dp_step hI
    rw [hc.1] at hS
    rw [dpGo]
    split
    · rename_i hb
      left
      refine ⟨rfl, ?_⟩
      have hm := (inner_min_le c a row (2 * j) (2 * j) bigN).2 j hI.1 (by omega)
      have hu := hS.2.2 j (by omega) rfl
      have := hs_mono a b (show j + 1 ≤ a.length by omega)
      omega
    · have hUj := hU (by omega)
      refine up_go hl hn hsh mc bs (j + 1) _ _ hc.2 hlt hS (fun hk => ?_) (fun e => ?_)
      · rw [inner_cell _ _ _ _ _ (j + 1) hI.1 hk]
        simp only [Nat.add_one_ne_zero, if_false, Nat.add_sub_cancel]
        have : cost c (a.getD (j + 1) 0) = 0 := by rw [← hc.1, hsh j hk, cost_self]
        omega
      · rw [inner_res c a row _ _ hI.1 hn, show a.length - 1 = j by omega, inner_cell _ _ _ _ _ j hI.1 (by omega)]
        omega
end Mine
end

section
open PySem PySem.W PyProof.Rows PySem.Spec PySem.Calls
namespace Mine
theorem getD_mid {p u s : List Nat} {i : Nat} (h : i < u.length) : (p ++ (u ++ s)).getD (p.length + i) 0 = u.getD i 0 := by
  rw [List.getD_eq_getElem?_getD, List.getD_eq_getElem?_getD, List.getElem?_append_right (Nat.le_add_right _ _), Nat.add_sub_cancel_left, List.getElem?_append_left h]
theorem levF_shift {x y : List Nat} (hl : x.length = y.length) (hsh : ∀ i, i + 1 < x.length → y.getD i 0 = x.getD (i + 1) 0) (hz : sumZ x y ≤ 99) : levF x y 99 = min 4 (sumZ x y) := by
  have h1 := levF_even hl (mc := 99) (by decide)
  rcases h1 with ⟨_, h1⟩ | ⟨h1, h2⟩
  · omega
  suffices h : levF x y 99 ≤ 4 by omega
  by_cases hxy : x = y
  · subst hxy; rw [levF_self]; decide
  · obtain ⟨p, u, v, s, rfl, rfl, huv, e⟩ := levF_mid 99 hxy hl
    have hu : 0 < u.length := by
      rcases Nat.eq_zero_or_pos u.length with h | h
      · have h1 := List.length_eq_zero_iff.mp h
        have h2 : v = [] := List.length_eq_zero_iff.mp (by omega)
        rw [h1, h2] at hxy
        exact absurd rfl hxy
      · exact h
    have hz2 : sumZ (p ++ (u ++ s)) (p ++ (v ++ s)) = sumZ u v := by
      rw [sumZ_append rfl, sumZ_append huv, sumZ_self, sumZ_self]; omega
    have hsw : sw u v = (u, v) := by unfold sw; rw [if_neg (by omega)]
    have hv : ∀ i, i + 1 < u.length → v.getD i 0 = u.getD (i + 1) 0 := fun i hi => by
      have h := hsh (p.length + i) (by simp only [List.length_append]; omega)
      rw [getD_mid (by omega), Nat.add_assoc, getD_mid hi] at h
      exact h
    rw [e, levCore_dp (List.ne_nil_of_length_pos hu) (List.ne_nil_of_length_pos (by omega)) (by rw [hsw]; show ¬((v.length : Int) - (u.length : Int)) * 2 > 99; omega), hsw]
    have r0 : UpInv u 0 (rowInit u.length) := fun h => by
      unfold rowInit
      have : ((List.range u.length).map fun (i : Nat) => 2 * (i : Int) + 2).getD 0 0 = 2 := by
        rw [List.getD_eq_getElem?_getD, List.getElem?_map, List.getElem?_range h]; rfl
      rw [this]; exact Int.le_refl _
    have := up_go huv.symm hu hv 99 v 0 (rowInit u.length) 0 rfl (Nat.zero_le _) (dp_init u v) r0 (fun h => by omega)
    rw [hs_all huv.symm] at this
    rcases this with ⟨_, h⟩ | h
    · omega
    · exact h
theorem sumZ_le : ∀ x y : List Nat, sumZ x y ≤ 2 * (x.length : Int)
  | [], y => by simp [sumZ]
  | a :: x, [] => by simp [sumZ]; omega
  | a :: x, b :: y => by
    have := sumZ_le x y
    have c := (cost_01 a b).2
    unfold sumZ at this ⊢
    rw [List.zip_cons_cons, List.map_cons, List.sum_cons, List.length_cons]
    simp only
    omega
end Mine
end

section
open PySem PySem.W PyProof.Rows PySem.Spec PySem.Calls
namespace Mine
noncomputable def rowM (K m : Nat) : List Nat := K :: (List.range 9).map (sgSign m)
theorem sg_row {kd m : Nat} (hm : m < 4096) : sgChars (kd * 4096 + m) = rowM (kindCh kd) m := by
  unfold sgChars sgPre rowM
  have e : (kd * 4096 + m) / 4096 = kd := by omega
  rw [e]
  congr 1
  exact List.map_congr_left fun k hk => sgSign_low (List.mem_range.mp hk)
noncomputable def sg2 (k b1 b2 : Nat) : Nat :=
  if k % 3 = 2 ∧ b2 = 1 then [[83, 115], [83, 115], [84, 116]].getD (k / 3) [] |>.getD b1 0
  else [45, 114, 119, 120].getD ((k % 3 + 1) * b1) 0
theorem sg_sg2 (m k : Nat) : sgSign m k = sg2 k (bitOf m (8 - k)) (bitOf m (11 - k / 3)) := rfl
theorem bit_pow : ∀ r < 12, ∀ j < 12, bitOf (2 ^ r) j = if j = r then 1 else 0 := by decide
theorem bit_flip {m r j : Nat} (hr : r < 12) (hj : j < 12) : bitOf (m ^^^ 2 ^ r) j = if j = r then 1 - bitOf m j else bitOf m j := by
  rw [bitOf_xor, bit_pow r hr j hj]
  have := bitOf_01 m j
  split <;> omega
noncomputable def place (r : Nat) : Nat := if r < 9 then 8 - r else 3 * (11 - r) + 2
theorem sign_same {m r k : Nat} (hr : r < 12) (hk : k < 9) (h : k ≠ place r) : sgSign (m ^^^ 2 ^ r) k = sgSign m k := by
  rw [sg_sg2, sg_sg2, bit_flip hr (by omega (config := {})), bit_flip hr (by omega (config := {}))]
  unfold place at h
  have h1 : 8 - k ≠ r := by split at h <;> omega (config := {})
  rw [if_neg h1]
  by_cases h2 : 11 - k / 3 = r
  · have h3 : ¬k % 3 = 2 := by split at h <;> omega (config := {})
    unfold sg2
    rw [if_neg (fun g => h3 g.1), if_neg (fun g => h3 g.1)]
  · rw [if_neg h2]
/-- the step's price -/
noncomputable def execOn (m r : Nat) : Bool := (r == 0 || r == 3 || r == 6) && bitOf m (9 + r / 3) == 1
theorem sg2_exec : ∀ r < 9, ∀ b1 < 2, ∀ b2 < 2, cost (sg2 (8 - r) b1 b2) (sg2 (8 - r) (1 - b1) b2) = (if (r == 0 || r == 3 || r == 6) && b2 == 1 then 1 else 2) := by decide +kernel
theorem sg2_set : ∀ q < 3, ∀ b1 < 2, ∀ b2 < 2, cost (sg2 (3 * q + 2) b1 b2) (sg2 (3 * q + 2) b1 (1 - b2)) = 2 := by decide +kernel
end Mine
end

section
open PySem PySem.W PyProof.Rows PySem.Spec PySem.Calls
namespace Mine
theorem bit_lt (m j : Nat) : bitOf m j < 2 := by unfold bitOf; omega (config := {})
theorem step_price {m r : Nat} (hr : r < 12) : cost (sgSign m (place r)) (sgSign (m ^^^ 2 ^ r) (place r)) = if execOn m r = true then 1 else 2 := by
  rw [sg_sg2, sg_sg2]
  by_cases h : r < 9
  · have hp : place r = 8 - r := by unfold place; rw [if_pos h]
    rw [hp, bit_flip hr (by omega (config := {})), bit_flip hr (by omega (config := {})), if_pos (by omega (config := {})), if_neg (by omega (config := {}))]
    have := sg2_exec r h (bitOf m (8 - (8 - r))) (bit_lt _ _) (bitOf m (11 - (8 - r) / 3)) (bit_lt _ _)
    rw [this]
    unfold execOn
    have e : ∀ r < 9, (r == 0 || r == 3 || r == 6) = true → 11 - (8 - r) / 3 = 9 + r / 3 := by decide
    cases hb : (r == 0 || r == 3 || r == 6) with
    | false => simp
    | true => rw [e r h hb]
  · have hp : place r = 3 * (11 - r) + 2 := by unfold place; rw [if_neg h]
    rw [hp, bit_flip hr (by omega (config := {})), bit_flip hr (by omega (config := {})), if_neg (by omega (config := {})), if_pos (by omega (config := {}))]
    have := sg2_set (11 - r) (by omega (config := {})) (bitOf m (8 - (3 * (11 - r) + 2))) (bit_lt _ _) (bitOf m (11 - (3 * (11 - r) + 2) / 3)) (bit_lt _ _)
    rw [this]
    have e : execOn m r = false := by
      unfold execOn
      have : (r == 0 || r == 3 || r == 6) = false := by
        simp only [Bool.or_eq_false_iff, beq_eq_false_iff_ne]; omega (config := {})
      rw [this]; rfl
    rw [e]; rfl
theorem rowM_length (K m : Nat) : (rowM K m).length = 10 := by simp [rowM]
/-- a step's two rows -/
theorem step_rows {K m r : Nat} (hr : r < 12) : ∃ p s, rowM K m = p ++ (sgSign m (place r) :: s) ∧ rowM K (m ^^^ 2 ^ r) = p ++ (sgSign (m ^^^ 2 ^ r) (place r) :: s) := by
  have hp : place r < 9 := by unfold place; split <;> omega
  have e : List.range 9 = List.range (place r) ++ (place r :: (List.range' (place r + 1) (8 - place r))) := by
    have : ∀ p < 9, List.range 9 = List.range p ++ (p :: (List.range' (p + 1) (8 - p))) := by decide
    exact this _ hp
  refine ⟨K :: (List.range (place r)).map (sgSign m), (List.range' (place r + 1) (8 - place r)).map (sgSign m), ?_, ?_⟩
  · unfold rowM
    rw [e, List.map_append, List.map_cons]; rfl
  · unfold rowM
    rw [e, List.map_append, List.map_cons]
    have h1 : (List.range (place r)).map (sgSign (m ^^^ 2 ^ r)) = (List.range (place r)).map (sgSign m) := List.map_congr_left fun k hk => by
      have := List.mem_range.mp hk
      exact sign_same hr (by omega) (by omega)
    have h2 : (List.range' (place r + 1) (8 - place r)).map (sgSign (m ^^^ 2 ^ r)) = (List.range' (place r + 1) (8 - place r)).map (sgSign m) := List.map_congr_left fun k hk => by
      have := List.mem_range'_1.mp hk
      exact sign_same hr (by omega) (by omega)
    rw [h1, h2]; rfl
theorem zip_self_filter : ∀ x : List Nat, (x.zip x).filter (fun p => p.1 != p.2) = []
  | [] => rfl
  | a :: x => by simp [zip_self_filter x]
/-- what a step asks of its rows -/
theorem step_all {K m r : Nat} (hr : r < 12) : ∃ c d : Nat, ((rowM K m).zip (rowM K (m ^^^ 2 ^ r))).filter (fun p => p.1 != p.2) = [(c, d)] ∧ levF (rowM K m) (rowM K (m ^^^ 2 ^ r)) 99 = cost c d ∧ levF (rowM K (m ^^^ 2 ^ r)) (rowM K m) 0 = 1 ∧ cost c d = if execOn m r = true then 1 else 2 := by
  obtain ⟨p, s, e1, e2⟩ := step_rows (K := K) (m := m) hr
  have pr := step_price (m := m) hr
  generalize sgSign m (place r) = c at *
  generalize sgSign (m ^^^ 2 ^ r) (place r) = d at *
  have hcd : c ≠ d := fun h => by
    rw [h, cost_self] at pr
    split at pr <;> omega
  have hl : (rowM K m).length = (rowM K (m ^^^ 2 ^ r)).length := by rw [rowM_length, rowM_length]
  have hne : rowM K m ≠ rowM K (m ^^^ 2 ^ r) := fun h => by
    rw [e1, e2] at h
    have := List.append_cancel_left h
    injection this with h1 _
    exact hcd h1
  have hz : sumZ (rowM K m) (rowM K (m ^^^ 2 ^ r)) = cost c d := by
    rw [e1, e2, sumZ_append rfl, sumZ_self]
    have := sumZ_self s
    unfold sumZ at this ⊢
    rw [List.zip_cons_cons, List.map_cons, List.sum_cons, this]
    simp only
    omega
  refine ⟨c, d, ?_, ?_, levF_nought (Ne.symm hne) hl.symm, pr⟩
  · rw [e1, e2, List.zip_append rfl, List.filter_append, zip_self_filter, List.zip_cons_cons, List.filter_cons_of_pos (by simpa using hcd), zip_self_filter]; rfl
  · have := levF_even hl (mc := 99) (by decide)
    have c2 := (cost_01 c d).2
    rw [hz] at this
    omega
end Mine
end

section
open PySem PySem.W PyProof.Rows PySem.Spec PySem.Calls
namespace Mine
theorem sumZ_map {f g : Nat → Nat} : ∀ l : List Nat, sumZ (l.map f) (l.map g) = (l.map fun k => cost (f k) (g k)).sum
  | [] => rfl
  | a :: l => by
    have := sumZ_map (f := f) (g := g) l
    unfold sumZ at this ⊢
    rw [List.map_cons, List.map_cons, List.zip_cons_cons, List.map_cons, List.sum_cons, this, List.map_cons, List.sum_cons]
theorem sum_le_sum {f g : Nat → Int} : ∀ l : List Nat, (∀ k ∈ l, f k ≤ g k) → (l.map f).sum ≤ (l.map g).sum
  | [], _ => by simp
  | a :: l, h => by
    have := sum_le_sum l fun k hk => h k (.tail _ hk)
    have h0 := h a (.head _)
    rw [List.map_cons, List.map_cons, List.sum_cons, List.sum_cons]
    omega
theorem sumZ_pos : ∀ x y : List Nat, x.length = y.length → x ≠ y → 1 ≤ sumZ x y
  | [], [], _, h => absurd rfl h
  | [], _ :: _, h, _ => by simp at h
  | _ :: _, [], h, _ => by simp at h
  | a :: x, b :: y, hl, h => by
    have hs : sumZ (a :: x) (b :: y) = cost a b + sumZ x y := by
      unfold sumZ; rw [List.zip_cons_cons, List.map_cons, List.sum_cons]
    have nn : ∀ x y : List Nat, 0 ≤ sumZ x y := fun x y => by
      unfold sumZ
      generalize x.zip y = l
      induction l with
      | nil => simp
      | cons p l ih => rw [List.map_cons, List.sum_cons]; have := (cost_01 p.1 p.2).1; omega
    rw [hs]
    by_cases hab : a = b
    · subst hab
      have := sumZ_pos x y (by simpa using hl) (fun g => h (by rw [g]))
      have := (cost_01 a a).1
      omega
    · have := cost_pos hab
      have := nn x y
      omega
theorem two_places : ∀ p < 9, ∀ q < 9, ((List.range 9).map fun k => (if k = p then (2 : Int) else 0) + (if k = q then 2 else 0)).sum = 4 := by decide
/-- the first row and the last one -/
theorem far_rows {K m r0 r1 r2 : Nat} (h0 : r0 < 12) (h1 : r1 < 12) (h2 : r2 < 12) (hp : place r0 = place r1) : sumZ (rowM K m) (rowM K (((m ^^^ 2 ^ r0) ^^^ 2 ^ r1) ^^^ 2 ^ r2)) ≤ 4 := by
  have pl : ∀ r, r < 12 → place r < 9 := fun r hr => by unfold place; split <;> omega
  have e : sumZ (rowM K m) (rowM K (((m ^^^ 2 ^ r0) ^^^ 2 ^ r1) ^^^ 2 ^ r2)) = 0 + ((List.range 9).map fun k => cost (sgSign m k) (sgSign (((m ^^^ 2 ^ r0) ^^^ 2 ^ r1) ^^^ 2 ^ r2) k)).sum := by
    rw [← sumZ_map]
    unfold rowM sumZ
    rw [List.zip_cons_cons, List.map_cons, List.sum_cons, cost_self]
  rw [e, ← two_places (place r0) (pl _ h0) (place r2) (pl _ h2), Int.zero_add]
  refine sum_le_sum _ fun k hk => ?_
  have hk9 := List.mem_range.mp hk
  have c2 := (cost_01 (sgSign m k) (sgSign (((m ^^^ 2 ^ r0) ^^^ 2 ^ r1) ^^^ 2 ^ r2) k)).2
  by_cases g0 : k = place r0
  · rw [if_pos g0]; split <;> omega
  · by_cases g2 : k = place r2
    · rw [if_pos g2]; split <;> omega
    · rw [if_neg g0, if_neg g2, sign_same h2 hk9 g2, sign_same h1 hk9 (hp ▸ g0), sign_same h0 hk9 g0, cost_self]; decide
theorem far_lev {x y : List Nat} (hl : x.length = y.length) (h1 : 1 ≤ sumZ x y) (h4 : sumZ x y ≤ 4) : levF x y 99 = sumZ x y ∧ levF y x (sumZ x y) = sumZ x y ∧ sumZ x y ≤ levF x y (sumZ x y - 1) := by
  refine ⟨?_, ?_, ?_⟩
  · have := levF_even hl (mc := 99) (by decide); omega
  · have := levF_even hl.symm (mc := sumZ x y) (by omega)
    rw [sumZ_comm y x] at this; omega
  · have := levF_even hl (mc := sumZ x y - 1) (by omega); omega
end Mine
end

section
open PySem PySem.W PyProof.Rows PySem.Spec PySem.Calls
namespace Mine
theorem eqvAll_refl_str : ∀ l : List Str, PyData.eqvAll (l.map PyData.str) (l.map PyData.str) = true
  | [] => rfl
  | a :: r => by simp [PyData.eqvAll, PyData.eqv, eqvAll_refl_str r]
theorem eqvAll_refl_rows : ∀ l : List (List Int), PyData.eqvAll (l.map fun r => PyData.list (r.map PyData.int)) (l.map fun r => PyData.list (r.map PyData.int)) = true
  | [] => rfl
  | a :: r => by
    have h : PyData.eqvAll (a.map PyData.int) (a.map PyData.int) = true := by rw [ked_eqvAll]; simp
    simp [PyData.eqvAll, PyData.eqv, eqvAll_refl_rows r, h]
theorem depth_strs : ∀ l : List Str, PyData.depthAll (l.map PyData.str) = 0
  | [] => rfl
  | _ :: r => by simp [PyData.depthAll, PyData.depth, depth_strs r]
theorem lay_rows : ∀ l : List (List Int), PyData.canLayAll0 (l.map fun r => PyData.list (r.map PyData.int)) = true
  | [] => rfl
  | _ :: r => by simp [PyData.canLayAll0, PyData.canLay0, lay_rows r, ke_canLayAll0]
theorem depth_rows : ∀ l : List (List Int), PyData.depthAll (l.map fun r => PyData.list (r.map PyData.int)) ≤ 1
  | [] => by simp [PyData.depthAll]
  | a :: r => by
    have := depth_rows r
    simp only [List.map_cons, PyData.depthAll, PyData.depth, ke_depthAll]
    omega
theorem strs_reads {h : Heap} : ∀ {vs : List Value} {ss : List Str}, StrsAre vs ss → ReadsAll h vs (ss.map PyData.str) []
  | _, _, .nil => .nil
  | _, _, .cons y t r => ReadsAll.cons (as := []) (.str y t) (strs_reads r)
theorem rows_reads {h h₀ : Heap} {L : Addr} {nw : List (Addr × Obj)} (N : News h₀ L h nw) : ∀ {vs : List Value} {rows : List (List Int)}, RowsAt nw vs rows → ∃ as, ReadsAll h vs (rows.map fun r => PyData.list (r.map PyData.int)) as
  | [], [], _ => ⟨[], .nil⟩
  | [], _ :: _, h => by have := h.1; simp at this
  | _ :: _, [], h => by have := h.1; simp at this
  | v :: vs, r :: rows, hR => by
    obtain ⟨a, us, c, e, hm, hi⟩ := hR.2 0 v r rfl rfl
    obtain ⟨as, ih⟩ := rows_reads N (vs := vs) (rows := rows) ⟨by have := hR.1; simpa using this, fun i v r h1 h2 => hR.2 (i + 1) v r (by simpa using h1) (by simpa using h2)⟩
    subst e
    have z := N _ hm
    exact ⟨_, .cons (reads_newData ⟨_, z.1, rfl, c, rfl⟩ (ke_carried hi)) ih⟩
section
variable {prog : Program} {w : World} {A : Around} {E : Value → Shared → Prop} {s : Shared} {Q : Value → Shared → Prop} {h₀ : Heap} {L : Addr} {nw : List (Addr × Obj)}
/-- two lists of the same texts -/
theorem ne_strs {a b : Addr} {xs ys : List Value} {ss : List Str} {c1 c2 : Nat} (N : News h₀ L s.heap nw) (ha : (a, listOf xs.toArray c1) ∈ nw) (hb : (b, listOf ys.toArray c2) ∈ nw) (hx : StrsAre xs ss) (hy : StrsAre ys ss) (hl : PyData.canLayAll0 (ss.map PyData.str) = true) (hu : A.units + 64 < cLine)
    (h : Q (.bool false) s) : wpAny (model prog w) A (compareOp .NotEq (.ref a) (.ref b)) Q E s := by
  have za := N _ ha
  have zb := N _ hb
  have sh : SeqAt.shaped (.list (ss.map PyData.str)) = true := by
    simp [SeqAt.shaped, PyData.canLay0, PyData.depth, hl, depth_strs]
  refine ne_dataH (reads_list_at za.1 rfl rfl (by simpa using strs_reads hx)) (reads_list_at zb.1 rfl rfl (by simpa using strs_reads hy)) sh sh hu ?_
  simp only [PyData.eqv, eqvAll_refl_str, Bool.not_true]
  exact h
/-- two lists of the same rows of ints -/
theorem ne_rows {a b : Addr} {xs ys : List Value} {rows : List (List Int)} {c1 c2 : Nat} (N : News h₀ L s.heap nw) (ha : (a, listOf xs.toArray c1) ∈ nw) (hb : (b, listOf ys.toArray c2) ∈ nw) (hx : RowsAt nw xs rows) (hy : RowsAt nw ys rows) (hu : A.units + 64 < cLine)
    (h : Q (.bool false) s) : wpAny (model prog w) A (compareOp .NotEq (.ref a) (.ref b)) Q E s := by
  have za := N _ ha
  have zb := N _ hb
  obtain ⟨as, ra⟩ := rows_reads N hx
  obtain ⟨bs, rb⟩ := rows_reads N hy
  have hd := depth_rows rows
  have sh : SeqAt.shaped (.list (rows.map fun r => PyData.list (r.map PyData.int))) = true := by
    simp only [SeqAt.shaped, PyData.canLay0, PyData.depth, lay_rows, Bool.true_and]
    refine decide_eq_true ?_
    exact Nat.le_trans (by first | exact Nat.succ_le_succ hd | exact Nat.add_le_add_left hd _ | exact Nat.add_le_add_right hd _) (by decide)
  refine ne_dataH (reads_list_at za.1 rfl rfl (by simpa using ra)) (reads_list_at zb.1 rfl rfl (by simpa using rb)) sh sh hu ?_
  simp only [PyData.eqv, eqvAll_refl_rows, Bool.not_true]
  exact h
end
end Mine
end
end
section
open PySem PySem.W PyProof.Rows PySem.Spec PySem.Calls
namespace Mine
end Mine
end

section
open PySem PySem.W PyProof.Rows PySem.Spec PySem.Calls
namespace Mine
theorem fmap_set {f : Str → Option Value} {x : Str} {v : Value} (h1 : f x = some v) (h2 : ∀ y, y ≠ x → f y = none) : f = upd (fun _ => none) x v := by
  funext y; unfold upd
  by_cases h : y = x
  · rw [if_pos h, h, h1]
  · rw [if_neg h, h2 y h]
theorem list3 {α : Type} : ∀ {l : List α}, l.length = 3 → ∃ a b c, l = [a, b, c]
  | a :: l, h => by
    cases l with
    | nil => cases h
    | cons b l =>
      cases l with
      | nil => cases h
      | cons c l =>
        cases l with
        | nil => exact ⟨a, b, c, rfl⟩
        | cons d l => exact absurd h (by simp)
inductive Is3 (vs : List Value) : Prop
  | intro (n0 n1 n2 : Int) (t1 t2 t3 : Tok) (e : vs = [.int n0 t1, .int n1 t2, .int n2 t3])
theorem three_ints {vs : List Value} {ks : List Int} (h : IntsAre vs ks) (hl : ks.length = 3) : Is3 vs := by
  obtain ⟨a, b, c, rfl⟩ := list3 hl
  obtain ⟨t1, v1, rfl, h1⟩ := h.cons_inv
  obtain ⟨t2, v2, rfl, h2⟩ := h1.cons_inv
  obtain ⟨t3, v3, rfl, h3⟩ := h2.cons_inv
  obtain rfl := h3.nil_inv
  exact ⟨a, b, c, t1, t2, t3, rfl⟩
theorem int_at {vs : List Value} {l : List Int} {i : Nat} {v : Value} (h : IntsAre vs l) (hv : vs[i]? = some v) : ∃ k t, v = .int k t := by
  obtain ⟨k, t, e, _⟩ := IntsAre.at h i v hv
  exact ⟨k, t, e⟩
/-- a statement that sets a name to a new list -/
inductive Made (h₀ : Heap) (L : Addr) (s : Shared) (m : Str → Option Value) (x : Str) (R : List Value → Prop) (news : List (Addr × Obj)) (f : Flow) (s' : Shared) : Prop
  | intro (hf : f = .next) (D : Addr) (k : Nat) (ys : List Value) (h' : Heap) (tk' : Nat) (e : s' = { s with heap := h', toks := tk' }) (F : Fr h₀ L h' (upd m x (.ref D))) (N : News h₀ L h' ((D, listOf ys.toArray k) :: news)) (off : ∀ p ∈ news, p.1 ≠ D) (hR : R ys)
theorem Made.mk {s : Shared} {h₀ h' : Heap} {tk' : Nat} {L D : Addr} {m : Str → Option Value} {news news' : List (Addr × Obj)} {x : Str} {R : List Value → Prop} {ys : List Value} (k : Nat) (F : Fr h₀ L h' (fun z => if z = x then some (.ref D) else m z)) (N : News h₀ L h' ((D, listOf ys.toArray k) :: news')) (hoff : ∀ p ∈ news', p.1 ≠ D) (sub : ∀ p ∈ news, p ∈ news') (hR : R ys) :
    Made h₀ L s m x R news .next { s with heap := h', toks := tk' } :=
  ⟨rfl, D, k, ys, h', tk', rfl, F, fun p hp => N p (by
    rcases List.mem_cons.mp hp with rfl | hp
    · exact .head _
    · exact .tail _ (sub p hp)), fun p hp => hoff p (sub p hp), hR⟩
theorem cut_made {hS : Heap} {gS : Array GenState} {dS : Drawn} {tS : Nat} {oS : OsState} {prog : Program} {w : World} {A : Around} {E : Value → Shared → Prop} {Q : Flow → Shared → Prop} {env : Env} {h₀ : Heap} {L : Addr} {m : Str → Option Value} {news : List (Addr × Obj)} {st : Stmt} {rest : List Stmt} (x : Str) (R : List Value → Prop) (_F : Fr h₀ L hS m) (_N : News h₀ L hS news)
    (h1 : wpAny (model prog w) A (exec st env) (Made h₀ L ⟨hS, gS, dS, tS, oS⟩ m x R news) E ⟨hS, gS, dS, tS, oS⟩)
    (h2 : ∀ D k ys h tk, Fr h₀ L h (upd m x (.ref D)) → News h₀ L h ((D, listOf ys.toArray k) :: news) → (∀ p ∈ news, p.1 ≠ D) → R ys → wpAny (model prog w) A (execs rest env) Q E ⟨h, gS, dS, tk, oS⟩) :
    wpAny (model prog w) A (execs (st :: rest) env) Q E ⟨hS, gS, dS, tS, oS⟩ := by
  refine wpAny_execs_cons (wpAny_mono h1 (fun f s' hf => ?_) fun _ _ e => e)
  obtain ⟨rfl, D, k, ys, h', tk', rfl, F, N, hD, hR⟩ := hf
  exact h2 D k ys h' tk' F N hD hR
end Mine
end

section
open PySem PySem.W PyProof.Rows PySem.Spec PySem.Calls
namespace Mine
section
variable {prog : Program} {w : World} {A : Around} {E : Value → Shared → Prop} {s : Shared} {Q : Value → Shared → Prop} {t u : Tok}
theorem imod {x d : Int} (hd : 0 < d) (h : ∀ r : Nat, r < d.toNat → ∀ t', Q (.int (r : Int) t') { s with toks := s.toks + 1 }) : wpAny (model prog w) A (binaryOp .Mod (.int x t) (.int d u)) Q E s := by
  refine mod_int' (by omega) ?_
  rw [Int.fmod_eq_emod_of_nonneg _ (by omega)]
  have h1 := Int.emod_nonneg x (show d ≠ 0 by omega)
  have h2 := Int.emod_lt_of_pos x hd
  have := h (x % d).toNat (by omega)
  rw [Int.toNat_of_nonneg h1] at this
  exact this _
theorem fdiv_4096 {x : Int} (h : ∀ y t', Q (.int y t') { s with toks := s.toks + 1 }) : wpAny (model prog w) A (binaryOp .FloorDiv (.int x t) (.int 4096 u)) Q E s := by
  refine floordiv_int (by decide) ?_ (Or.inl (PyProof.noPylong_of_log2 (by decide)))
  exact h _ _
theorem store_cell {env : Env} {h₀ : Heap} {L : Addr} {m : Str → Option Value} {x : Str} {v : Value} {a : Addr} {o : Obj} {u : Option Value} {news : List (Addr × Obj)} (others : List (Addr × Obj)) {Q : PUnit → Shared → Prop} (hkind : env.scope.kind = .function) (hkx : env.kindOf x = some .cell) (hlk : env.cells.lookup x = some a) (F : Fr h₀ L s.heap m) (N : News h₀ L s.heap news) (hm : (a, o) ∈ news) (ho : o.data = .cell u) (hs : ∀ p ∈ others, p ∈ news) (hoff : ∀ p ∈ others, p.1 ≠ a)
    (h : ∀ h' o', o'.data = .cell (some v) → Fr h₀ L h' m → News h₀ L h' ((a, o') :: others) → Q ⟨⟩ { s with heap := h' }) : wpAny (model prog w) A (storeName env x v) Q E s := by
  have z := N _ hm
  refine wpAny_storeName_cell (c := a) hkind hkx hlk ⟨o, z.1, ho⟩ fun h₄ hc₄ hs₄ => ?_
  obtain ⟨o', e', h'⟩ := hc₄
  refine h h₄ o' h' (F.change hs₄ z.2.1 z.2.2) fun p hp => ?_
  rcases List.mem_cons.mp hp with rfl | hp
  · exact ⟨e', z.2⟩
  · have y := N p (hs p hp)
    exact ⟨hs₄.extBut _ _ (hoff p hp) y.1, y.2⟩
end
theorem kind_in {r : Nat} (h : r < 8) : ([8, 4, 10, 2, 6, 1, 12, 3] : List Nat).getD r 0 ∈ [8, 4, 10, 2, 6, 1, 12, 3] := by
  have := (by decide : ∀ r < 8, ([8, 4, 10, 2, 6, 1, 12, 3] : List Nat).getD r 0 ∈ [8, 4, 10, 2, 6, 1, 12, 3])
  exact this r h
theorem kind_cell {o : Obj} {r : Nat} {t : Tok} (h : o.data = .cell (some (.int (([8, 4, 10, 2, 6, 1, 12, 3] : List Int).getD (r : Int).toNat 0) t))) (hr : r < 8) : o.data = .cell (some (.int ((([8, 4, 10, 2, 6, 1, 12, 3] : List Nat).getD r 0 : Nat) : Int) t)) := by
  rw [h]
  have := (by decide : ∀ r : Nat, r < 8 → ([8, 4, 10, 2, 6, 1, 12, 3] : List Int).getD (r : Int).toNat 0 = ((([8, 4, 10, 2, 6, 1, 12, 3] : List Nat).getD r 0 : Nat) : Int))
  rw [this r hr]
/-- the three cells set -/
inductive CellsSet (h₀ : Heap) (L : Addr) (s : Shared) (m : Str → Option Value) (aC aB aK : Addr) (pre : List (Addr × Obj)) (f : Flow) (s' : Shared) : Prop
  | intro (hf : f = .next) (kd bt cc : Nat) (oC oB oK : Obj) (t1 t2 t3 : Tok) (h' : Heap) (tk' : Nat) (e : s' = { s with heap := h', toks := tk' }) (e1 : kd ∈ [8, 4, 10, 2, 6, 1, 12, 3]) (e2 : bt < 4096) (e3 : cc < 3) (e4 : oC.data = .cell (some (.int (cc : Int) t1))) (e5 : oB.data = .cell (some (.int (bt : Int) t2))) (e6 : oK.data = .cell (some (.int (kd : Int) t3)))
    (F : Fr h₀ L h' m) (N : News h₀ L h' (pre ++ [(aC, oC), (aB, oB), (aK, oK)]))
theorem cut_cells {hS : Heap} {gS : Array GenState} {dS : Drawn} {tS : Nat} {oS : OsState} {prog : Program} {w : World} {A : Around} {E : Value → Shared → Prop} {Q : Flow → Shared → Prop} {env : Env} {h₀ : Heap} {L : Addr} {m : Str → Option Value} {st : Stmt} {rest : List Stmt} {aC aB aK : Addr} {oC oB oK : Obj} {p1 p2 : Addr × Obj} (_F : Fr h₀ L hS m) (_N : News h₀ L hS [p1, p2, (aC, oC), (aB, oB), (aK, oK)])
    (h1 : wpAny (model prog w) A (exec st env) (CellsSet h₀ L ⟨hS, gS, dS, tS, oS⟩ m aC aB aK [p1, p2]) E ⟨hS, gS, dS, tS, oS⟩)
    (h2 : ∀ (kd bt cc : Nat) (oC oB oK : Obj) (t1 t2 t3 : Tok) (h' : Heap) (tk' : Nat), kd ∈ [8, 4, 10, 2, 6, 1, 12, 3] → bt < 4096 → cc < 3 → oC.data = .cell (some (.int (cc : Int) t1)) → oB.data = .cell (some (.int (bt : Int) t2)) → oK.data = .cell (some (.int (kd : Int) t3)) →
      Fr h₀ L h' m → News h₀ L h' ([p1, p2] ++ [(aC, oC), (aB, oB), (aK, oK)]) → wpAny (model prog w) A (execs rest env) Q E ⟨h', gS, dS, tk', oS⟩) :
    wpAny (model prog w) A (execs (st :: rest) env) Q E ⟨hS, gS, dS, tS, oS⟩ := by
  refine wpAny_execs_cons (wpAny_mono h1 (fun f s' hf => ?_) fun _ _ e => e)
  obtain ⟨rfl, kd, bt, cc, oC', oB', oK', t1, t2, t3, h', tk', rfl, hkd, hbt, hcc, eC, eB, eK, F2, N2⟩ := hf
  exact h2 kd bt cc oC' oB' oK' t1 t2 t3 h' tk' hkd hbt hcc eC eB eK F2 N2
end Mine
end

section
open PySem PySem.W PyProof.Rows PySem.Spec PySem.Calls
namespace Mine
noncomputable def othersUpto (cc i : Nat) : List Int := ((List.range i).filter fun k => decide ¬(k = 6 - 3 * cc ∨ k = 11 - cc)).map fun k : Nat => (k : Int)
theorem othersUpto_succ (cc i : Nat) : othersUpto cc (i + 1) = othersUpto cc i ++ (if i = 6 - 3 * cc ∨ i = 11 - cc then [] else [(i : Int)]) := by
  unfold othersUpto
  rw [List.range_succ, List.filter_append, List.map_append]
  by_cases h : i = 6 - 3 * cc ∨ i = 11 - cc
  · rw [if_pos h, List.filter_cons_of_neg (by rw [decide_eq_true_iff]; exact fun g => g h)]; rfl
  · rw [if_neg h, List.filter_cons_of_pos (by rw [decide_eq_true_iff]; exact h)]; rfl
theorem others_in {cc i : Nat} {ys : List Value} (hc : cc < 3) (h : IntsAre ys (othersUpto cc i)) (hq : ([6 - 3 * (cc : Int), 11 - (cc : Int)].any fun x => x == 0 + (i : Int)) = true) : IntsAre ys (othersUpto cc (i + 1)) := by
  have : i = 6 - 3 * cc ∨ i = 11 - cc := by
    simp only [List.any_cons, List.any_nil, Bool.or_false, Bool.or_eq_true, beq_iff_eq] at hq
    omega
  rw [othersUpto_succ, if_pos this, List.append_nil]; exact h
theorem others_out {cc i : Nat} {ys : List Value} {t : Tok} (hc : cc < 3) (h : IntsAre ys (othersUpto cc i)) (hq : ([6 - 3 * (cc : Int), 11 - (cc : Int)].any fun x => x == 0 + (i : Int)) = false) : IntsAre (ys ++ [.int (0 + (i : Int)) t]) (othersUpto cc (i + 1)) := by
  have : ¬(i = 6 - 3 * cc ∨ i = 11 - cc) := by
    simp only [List.any_cons, List.any_nil, Bool.or_false, Bool.or_eq_false_iff, beq_eq_false_iff_ne] at hq
    omega
  rw [othersUpto_succ, if_neg this, Int.zero_add]; exact h.append (.cons _ _ .nil)
end Mine
end

section
open PySem PySem.W PyProof.Rows PySem.Spec PySem.Calls
namespace Mine
inductive RightsSet (h₀ : Heap) (L : Addr) (s : Shared) (m : Str → Option Value) (aR : Addr) (cc : Nat) (rest : List (Addr × Obj)) (f : Flow) (s' : Shared) : Prop
  | intro (hf : f = .next) (rr : Nat) (D k : Nat) (ys : List Value) (oR : Obj) (h' : Heap) (tk' : Nat) (e : s' = { s with heap := h', toks := tk' }) (e1 : rr < 12) (e2 : rr ≠ 6 - 3 * cc) (e3 : rr ≠ 11 - cc) (e4 : IntsAre ys [6 - 3 * (cc : Int), 11 - (cc : Int), (rr : Int)]) (e5 : oR.data = .cell (some (.ref D))) (e6 : ∀ p ∈ (aR, oR) :: rest, p.1 ≠ D)
    (F : Fr h₀ L h' m) (N : News h₀ L h' ((D, listOf ys.toArray k) :: (aR, oR) :: rest))
theorem RightsSet.mk {h₀ : Heap} {L : Addr} {s : Shared} {m : Str → Option Value} {aR D : Addr} {cc : Nat} {rest : List (Addr × Obj)} {t1 t2 t3 : Tok} {x : Int} {rr : Nat} {d1 d2 : Addr × Obj} {oR : Obj} {h' : Heap} {tk' : Nat} (F : Fr h₀ L h' m)
    (N : News h₀ L h' ((D, listOf #[.int (6 - 3 * (cc : Int)) t1, .int (11 - (cc : Int)) t2, .int x t3] 0) :: d2 :: d1 :: (aR, oR) :: rest)) (e : x = (rr : Int)) (a1 : rr < 12) (a2 : rr ≠ 6 - 3 * cc) (a3 : rr ≠ 11 - cc) (a4 : oR.data = .cell (some (.ref D))) (a5 : ∀ p ∈ (aR, oR) :: rest, p.1 ≠ D) : RightsSet h₀ L s m aR cc rest .next { s with heap := h', toks := tk' } := by
  subst e
  refine ⟨rfl, rr, D, 0, [.int (6 - 3 * (cc : Int)) t1, .int (11 - (cc : Int)) t2, .int (rr : Int) t3], oR, h', tk', rfl, a1, a2, a3, .cons _ _ (.cons _ _ (.cons _ _ .nil)), a4, a5, F, fun p hp => ?_⟩
  rcases List.mem_cons.mp hp with rfl | hp
  · exact N _ (.head _)
  · exact N p (.tail _ (.tail _ (.tail _ hp)))
theorem cut_rights {hS : Heap} {gS : Array GenState} {dS : Drawn} {tS : Nat} {oS : OsState} {prog : Program} {w : World} {A : Around} {E : Value → Shared → Prop} {Q : Flow → Shared → Prop} {env : Env} {h₀ : Heap} {L : Addr} {m : Str → Option Value} {st : Stmt} {rest : List Stmt} {aR : Addr} {cc : Nat} {rest' : List (Addr × Obj)} (_F : Fr h₀ L hS m)
    (h1 : wpAny (model prog w) A (exec st env) (RightsSet h₀ L ⟨hS, gS, dS, tS, oS⟩ m aR cc rest') E ⟨hS, gS, dS, tS, oS⟩)
    (h2 : ∀ (rr : Nat) (D k : Nat) (ys : List Value) (oR : Obj) (h' : Heap) (tk' : Nat), rr < 12 → rr ≠ 6 - 3 * cc → rr ≠ 11 - cc → IntsAre ys [6 - 3 * (cc : Int), 11 - (cc : Int), (rr : Int)] → oR.data = .cell (some (.ref D)) → (∀ p ∈ (aR, oR) :: rest', p.1 ≠ D) →
      Fr h₀ L h' m → News h₀ L h' ((D, listOf ys.toArray k) :: (aR, oR) :: rest') → wpAny (model prog w) A (execs rest env) Q E ⟨h', gS, dS, tk', oS⟩) :
    wpAny (model prog w) A (execs (st :: rest) env) Q E ⟨hS, gS, dS, tS, oS⟩ := by
  refine wpAny_execs_cons (wpAny_mono h1 (fun f s' hf => ?_) fun _ _ e => e)
  obtain ⟨rfl, rr, D, k, ys, oR, h', tk', rfl, a1, a2, a3, a4, a5, a6, F2, N2⟩ := hf
  exact h2 rr D k ys oR h' tk' a1 a2 a3 a4 a5 a6 F2 N2
theorem others_at {cc r : Nat} (hc : cc < 3) (hr : r < 10) : ∃ rr : Nat, (othersUpto cc 12).getD r 0 = (rr : Int) ∧ rr < 12 ∧ rr ≠ 6 - 3 * cc ∧ rr ≠ 11 - cc := by
  have h : ∀ c < 3, ∀ r < 10, (othersUpto c 12).getD r 0 = (((othersUpto c 12).getD r 0).toNat : Int) ∧ ((othersUpto c 12).getD r 0).toNat < 12 ∧ ((othersUpto c 12).getD r 0).toNat ≠ 6 - 3 * c ∧ ((othersUpto c 12).getD r 0).toNat ≠ 11 - c := by decide
  exact ⟨_, h cc hc r hr⟩
end Mine
end

section
open PySem PySem.W PyProof.Rows PySem.Spec PySem.Calls
namespace Mine
theorem pow_nat {prog : Program} {w : World} {A : Around} {E : Value → Shared → Prop} {s : Shared} {Q : Value → Shared → Prop} {t u : Tok} {n : Nat} (hn : n ≤ 1000) (h : ∀ t', Q (.int ((2 ^ n : Nat) : Int) t') { s with toks := s.toks + 1 }) : wpAny (model prog w) A (binaryOp .Pow (.int 2 t) (.int (n : Int) u)) Q E s :=
  pow_two ⟨Int.natCast_nonneg _, by omega⟩ (by rw [Int.toNat_natCast]; exact h)
noncomputable def rsOf (cc rr : Nat) : List Nat := [6 - 3 * cc, 11 - cc, rr]
noncomputable def masks (rs : List Nat) (t i : Nat) : List Int := ((List.range i).filter fun j => decide (t / 2 ^ j % 2 = 1)).map fun j => ((2 ^ rs.getD j 0 : Nat) : Int)
theorem masks_succ (rs : List Nat) (t i : Nat) : masks rs t (i + 1) = masks rs t i ++ (if t / 2 ^ i % 2 = 1 then [((2 ^ rs.getD i 0 : Nat) : Int)] else []) := by
  unfold masks
  rw [List.range_succ, List.filter_append, List.map_append]
  by_cases h : t / 2 ^ i % 2 = 1
  · rw [if_pos h, List.filter_cons_of_pos (by rw [decide_eq_true_iff]; exact h)]; rfl
  · rw [if_neg h, List.filter_cons_of_neg (by rw [decide_eq_true_iff]; exact h)]; rfl
theorem rs_at {cc rr j : Nat} (hc : cc < 3) (hr : rr < 12) (hj : j < 3) : ([6 - 3 * (cc : Int), 11 - (cc : Int), (rr : Int)] : List Int).getD (j : Int).toNat 0 = (((rsOf cc rr).getD j 0 : Nat) : Int) ∧ (rsOf cc rr).getD j 0 ≤ 1000 := by
  rw [Int.toNat_natCast]
  match j, hj with
  | 0, _ => exact ⟨by show (6 - 3 * (cc : Int)) = ((6 - 3 * cc : Nat) : Int); omega, by show 6 - 3 * cc ≤ 1000; omega⟩
  | 1, _ => exact ⟨by show (11 - (cc : Int)) = ((11 - cc : Nat) : Int); omega, by show 11 - cc ≤ 1000; omega⟩
  | 2, _ => exact ⟨rfl, by show rr ≤ 1000; omega⟩
noncomputable def turnF (bt : Nat) (rs : List Nat) (t : Nat) : Int := Builtin.bitXor (bt : Int) (masks rs t 3).sum

section
variable {prog : Program} {w : World} {A : Around} {E : Value → Shared → Prop} {m : Str → Option Value} {h₀ : Heap} {L : Addr}
theorem LcxEl.mk {C X D : Addr} {own : List (Addr × Obj)} {wr : List Addr} {K : List (Addr × Obj) → Prop} {ys : List Value} {s₁ : Shared} {h' : Heap} {tk : Nat} {oC oX : Obj} {m₂ : Str → Option Value} {u : Option Value} (news' : List (Addr × Obj)) {rest : List (Addr × Obj)} (F : Fr h₀ L h' m) (N : News h₀ L h' rest) (hC : LCg.NsObj oC m₂) (hX : oX.data = .cell u) (sub : ∀ p ∈ (C, oC) :: (X, oX) :: (D, LCg.lst ys) :: (news' ++ own), p ∈ rest) (off : ∀ p ∈ news', p.1 ∉ wr ∧ p.1 ≠ C ∧ p.1 ≠ X ∧ p.1 ≠ D) (hK : K news') :
    LcxEl h₀ L m C X D own wr K ys s₁ { s₁ with heap := h', toks := tk } := ⟨h', tk, oC, oX, m₂, u, news', rfl, F, hC, hX, fun p hp => N p (sub p hp), off, hK⟩
theorem Body1.of' {ifs : List Expr} {elt : Expr} {cenv : Env} {C X D : Addr} {ys : List Value} {own : List (Addr × Obj)} {wr : List Addr} {K : List Value → List (Addr × Obj) → Prop} {s₁ : Shared} (hys : ys.length ≤ 1000) (own_off : ∀ p ∈ own, p.1 ≠ D) (hCD : C ≠ D) (hXD : X ≠ D)
    (h : LcBody prog w A ifs elt cenv (fun y s₂ => LcxEl h₀ L m C X D own wr (K (ys ++ [y])) ys s₁ s₂) (fun s₂ => LcxEl h₀ L m C X D own wr (K ys) ys s₁ s₂) E s₁) :
    Body1 prog w A ifs elt cenv (.ref D) (fun s₄ => LcxEnd h₀ L m C X D own wr K s₁ s₄) E s₁ := Body1.of hys own_off hCD hXD h
end
end Mine
end

section
open PySem PySem.W PyProof.Rows PySem.Spec PySem.Calls
namespace Mine
theorem map_take_snoc {α β : Type} {f : α → β} {l : List α} {i : Nat} {a : α} (h : l[i]? = some a) : (l.take (i + 1)).map f = (l.take i).map f ++ [f a] := by
  rw [take_snocO h, List.map_append, List.map_singleton]
end Mine
end

section
open PySem PySem.W PyProof.Rows PySem.Spec PySem.Calls
namespace Mine
noncomputable def maskN (rs : List Nat) (t : Nat) : Nat := (((List.range 3).filter fun j => decide (t / 2 ^ j % 2 = 1)).map fun j => 2 ^ rs.getD j 0).sum
noncomputable def turnN (bt : Nat) (rs : List Nat) (t : Nat) : Nat := bt ^^^ maskN rs t
theorem sum_cast : ∀ l : List Nat, (l.map fun n : Nat => (n : Int)).sum = ((l.sum : Nat) : Int)
  | [] => rfl
  | a :: l => by rw [List.map_cons, List.sum_cons, List.sum_cons, sum_cast l]; omega
theorem turn_nat (bt : Nat) (rs : List Nat) (t : Nat) : turnF bt rs t = ((turnN bt rs t : Nat) : Int) := by
  unfold turnF turnN masks
  rw [← bitXor_nat]
  congr 1
  unfold maskN
  rw [← sum_cast, List.map_map]; rfl
noncomputable def okMask (h j c rr : Nat) : Bool := h / 2 ^ j % 2 == 1 || rr == 6 - 3 * c || rr == 11 - c || maskN (rsOf c rr) (h + 2 ^ j) == maskN (rsOf c rr) h ^^^ 2 ^ (rsOf c rr).getD j 0
theorem mask_ok : ∀ h < 8, ∀ j < 3, ∀ c < 3, ∀ rr < 12, okMask h j c rr = true := by decide +kernel
theorem mask_step {h j c rr : Nat} (hh : h < 8) (hj : j < 3) (hc : c < 3) (hr : rr < 12) (hb : h / 2 ^ j % 2 = 0) (h1 : rr ≠ 6 - 3 * c) (h2 : rr ≠ 11 - c) : maskN (rsOf c rr) (h + 2 ^ j) = maskN (rsOf c rr) h ^^^ 2 ^ (rsOf c rr).getD j 0 := by
  have := mask_ok h hh j hj c hc rr hr
  unfold okMask at this
  simp only [Bool.or_eq_true, beq_iff_eq] at this
  rcases this with ((g | g) | g) | g
  · omega
  · exact absurd g h1
  · exact absurd g h2
  · exact g
theorem mask_lt : ∀ h < 8, ∀ c < 3, ∀ rr < 12, (rr = 6 - 3 * c ∨ rr = 11 - c) ∨ maskN (rsOf c rr) h < 4096 := by decide +kernel
theorem turn_step {bt h j c rr : Nat} (hh : h < 8) (hj : j < 3) (hb : h / 2 ^ j % 2 = 0) (hc : c < 3) (hr : rr < 12) (h1 : rr ≠ 6 - 3 * c) (h2 : rr ≠ 11 - c) : turnN bt (rsOf c rr) (h + 2 ^ j) = turnN bt (rsOf c rr) h ^^^ 2 ^ (rsOf c rr).getD j 0 := by
  unfold turnN
  rw [mask_step hh hj hc hr hb h1 h2, Nat.xor_assoc]
theorem turn_lt {bt h c rr : Nat} (hb : bt < 4096) (hh : h < 8) (hc : c < 3) (hr : rr < 12) (h1 : rr ≠ 6 - 3 * c) (h2 : rr ≠ 11 - c) : turnN bt (rsOf c rr) h < 4096 := by
  unfold turnN
  have := (mask_lt h hh c hc rr hr).resolve_left (by omega)
  exact Nat.xor_lt_two_pow (n := 12) hb this
theorem sign_42 : ∀ k < 9, ∀ b1 < 2, ∀ b2 < 2, cost (sg2 k b1 b2) 42 = 2 := by decide +kernel
theorem kind_42 : ∀ k ∈ [8, 4, 10, 2, 6, 1, 12, 3], cost (kindCh k) 42 = 2 := by decide +kernel
theorem row_42 {kd m : Nat} (hk : kd ∈ [8, 4, 10, 2, 6, 1, 12, 3]) : ∀ c ∈ rowM (kindCh kd) m, cost c 42 = 2 := by
  intro c hc
  unfold rowM at hc
  rcases List.mem_cons.mp hc with rfl | hc
  · exact kind_42 kd hk
  · obtain ⟨k, hk2, rfl⟩ := List.mem_map.mp hc
    rw [sg_sg2]
    exact sign_42 k (List.mem_range.mp hk2) _ (bit_lt _ _) _ (bit_lt _ _)
end Mine
end

section
open PySem PySem.W PyProof.Rows PySem.Spec PySem.Calls
namespace Mine
theorem lay_strs : ∀ l : List (List Nat), (∀ x ∈ l, ∀ c ∈ x, c < 1000) → PyData.canLayAll0 ((l.map S).map PyData.str) = true
  | [], _ => rfl
  | x :: l, h => by
    have h1 := lay_strs l fun y hy => h y (.tail _ hy)
    have h2 : PyData.canLay0 (PyData.str (S x)) = true := by
      show (x.toArray.all (· < 0x110000)) = true
      rw [List.all_toArray, List.all_eq_true]
      intro c hc
      have := h x (.head _) c hc
      exact decide_eq_true (by omega)
    simp only [List.map_cons, PyData.canLayAll0, h1, h2, Bool.and_true]
theorem sg_small : ∀ k < 9, ∀ b1 < 2, ∀ b2 < 2, sg2 k b1 b2 < 1000 := by decide +kernel
theorem kind_small : ∀ k < 16, kindCh k < 1000 := by decide
theorem row_small {kd m : Nat} (hk : kd < 16) : ∀ c ∈ rowM (kindCh kd) m, c < 1000 := by
  intro c hc
  unfold rowM at hc
  rcases List.mem_cons.mp hc with rfl | hc
  · exact kind_small kd hk
  · obtain ⟨k, hk2, rfl⟩ := List.mem_map.mp hc
    rw [sg_sg2]
    exact sg_small k (List.mem_range.mp hk2) _ (bit_lt _ _) _ (bit_lt _ _)
end Mine
end

section
open PySem PySem.W PyProof.Rows PySem.Spec PySem.Calls
namespace Mine
section
variable {prog : Program} {w : World} {A : Around} {E : Value → Shared → Prop} {Q : Flow → Shared → Prop} {s : Shared} {env : Env} {h₀ : Heap} {L : Addr}
/-- a statement that leaves the frame and the ledger as they were -/
noncomputable def Same (h₀ : Heap) (L : Addr) (s : Shared) (m : Str → Option Value) (news : List (Addr × Obj)) (f : Flow) (s' : Shared) : Prop := f = .next ∧ Ends h₀ L s m news s'
theorem Same.mk {m : Str → Option Value} {news : List (Addr × Obj)} {h' : Heap} {tk' : Nat} (F : Fr h₀ L h' m) (N : News h₀ L h' news) : Same h₀ L s m news .next { s with heap := h', toks := tk' } := ⟨rfl, h', tk', rfl, F, N⟩
theorem led_hide {h₀ h : Heap} {L : Addr} {l l5 : List (Addr × Obj)} {a b c : Addr × Obj} (N : News h₀ L h l) (ma : a ∈ l) (mb : b ∈ l) (mc : c ∈ l) (m5 : ∀ p ∈ l5, p ∈ l) : ∃ LED : List (Addr × Obj), a ∈ LED ∧ b ∈ LED ∧ c ∈ LED ∧ (∀ p ∈ l5, p ∈ LED) ∧ News h₀ L h LED := ⟨l, ma, mb, mc, m5, N⟩
inductive RowsJ (led : List (Addr × Obj)) (f : Nat → List (List Int)) (i : Nat) (ys : List Value) (nw : List (Addr × Obj)) : Prop
  | intro (nx : List (Addr × Obj)) (e : nw = nx ++ led) (h : RowsAt nx ys (f i))
theorem cut_same {hS : Heap} {gS : Array GenState} {dS : Drawn} {tS : Nat} {oS : OsState} {m : Str → Option Value} {news : List (Addr × Obj)} {st : Stmt} {rest : List Stmt} (_F : Fr h₀ L hS m) (_N : News h₀ L hS news)
    (h1 : wpAny (model prog w) A (exec st env) (Same h₀ L ⟨hS, gS, dS, tS, oS⟩ m news) E ⟨hS, gS, dS, tS, oS⟩)
    (h2 : ∀ h tk, Fr h₀ L h m → News h₀ L h news → wpAny (model prog w) A (execs rest env) Q E ⟨h, gS, dS, tk, oS⟩) :
    wpAny (model prog w) A (execs (st :: rest) env) Q E ⟨hS, gS, dS, tS, oS⟩ := by
  refine wpAny_execs_cons (wpAny_mono h1 (fun f s' hf => ?_) fun _ _ e => e)
  obtain ⟨rfl, h', tk', rfl, F, N⟩ := hf
  exact h2 h' tk' F N
end
end Mine
end

section
open PySem PySem.W PyProof.Rows PySem.Spec PySem.Calls
namespace Mine
theorem strs_get : ∀ {vs : List Value} {ss : List Str} {i : Nat} {x : Str}, StrsAre vs ss → ss[i]? = some x → ∃ t, vs[i]? = some (.str x t)
  | _, _, _, _, .nil, h => by simp at h
  | _, _, 0, _, .cons y t r, h => by simp at h; subst h; exact ⟨t, rfl⟩
  | _, _, i + 1, _, .cons y t r, h => by
    obtain ⟨u, hu⟩ := strs_get r (i := i) (by simpa using h)
    exact ⟨u, by simpa using hu⟩
theorem ints_get : ∀ {vs : List Value} {ss : List Int} {i : Nat} {x : Int}, IntsAre vs ss → ss[i]? = some x → ∃ t, vs[i]? = some (.int x t)
  | _, _, _, _, .nil, h => by simp at h
  | _, _, 0, _, .cons y t r, h => by simp at h; subst h; exact ⟨t, rfl⟩
  | _, _, i + 1, _, .cons y t r, h => by
    obtain ⟨u, hu⟩ := ints_get r (i := i) (by simpa using h)
    exact ⟨u, by simpa using hu⟩
section
variable {prog : Program} {w : World} {A : Around} {E : Value → Shared → Prop} {s : Shared} {Q : Value → Shared → Prop} {h₀ : Heap} {L : Addr} {nw : List (Addr × Obj)} {value slice : Expr} {l : Addr} {vs : List Value} {k n h : Nat} {u : Tok}
theorem item_rows {g : Nat → List Nat} (N : News h₀ L s.heap nw) (hm : (l, listOf vs.toArray k) ∈ nw) (hv : StrsAre vs ((List.range n).map fun t => S (g t))) (hh : h < n) (hn : n ≤ 1000) (hQ : ∀ t, Q (.str (S (g h)) t) s)
    (hs : subscripted slice false (.ref l) (.int (h : Int) u) = operate [.ref l, .int (h : Int) u] (getItem (.ref l) (.int (h : Int) u)) := by with_unfolding_all rfl) :
    wpAny (model prog w) A (subscriptTail value slice (.ref l) (.int (h : Int) u)) Q E s := by
  have hl : s.heap.IsList l vs.toArray := ⟨_, (N _ hm).1, rfl, k, rfl⟩
  have e : ((List.range n).map fun t => S (g t))[h]? = some (S (g h)) := by rw [List.getElem?_map, List.getElem?_range hh]; rfl
  obtain ⟨t, ht⟩ := strs_get hv e
  exact tail_any hl.typeIs slot_list_getitem.lookup (wpAny_getItem_list hl (Int.natCast_nonneg _) (by omega) (by rw [Int.toNat_natCast]; simpa using ht) (hQ t)) hs
theorem item_nats {g : Nat → Nat} (N : News h₀ L s.heap nw) (hm : (l, listOf vs.toArray k) ∈ nw) (hv : IntsAre vs ((List.range n).map fun t => ((g t : Nat) : Int))) (hh : h < n) (hn : n ≤ 1000) (hQ : ∀ t, Q (.int ((g h : Nat) : Int) t) s)
    (hs : subscripted slice false (.ref l) (.int (h : Int) u) = operate [.ref l, .int (h : Int) u] (getItem (.ref l) (.int (h : Int) u)) := by with_unfolding_all rfl) :
    wpAny (model prog w) A (subscriptTail value slice (.ref l) (.int (h : Int) u)) Q E s := by
  have hl : s.heap.IsList l vs.toArray := ⟨_, (N _ hm).1, rfl, k, rfl⟩
  have e : ((List.range n).map fun t => ((g t : Nat) : Int))[h]? = some ((g h : Nat) : Int) := by rw [List.getElem?_map, List.getElem?_range hh]; rfl
  obtain ⟨t, ht⟩ := ints_get hv e
  exact tail_any hl.typeIs slot_list_getitem.lookup (wpAny_getItem_list hl (Int.natCast_nonneg _) (by omega) (by rw [Int.toNat_natCast]; simpa using ht) (hQ t)) hs
end
/-- how far an order has come -/
noncomputable def hereF (r : List Int) (i : Nat) : Nat := ((r.take i).map fun k => 2 ^ k.toNat).sum
noncomputable def okOrder (r : List Int) (i : Nat) : Bool := r.length == 3 && decide (0 ≤ r.getD i 0 ∧ r.getD i 0 < 3) && decide (hereF r i < 8 ∧ hereF r i / 2 ^ (r.getD i 0).toNat % 2 = 0 ∧ hereF r (i + 1) = hereF r i + 2 ^ (r.getD i 0).toNat ∧ hereF r (i + 1) < 8)
theorem orders_ok : ∀ r ∈ ordersF 3 [0, 1, 2], ∀ i < 3, okOrder r i = true := by decide
theorem order_facts {r : List Int} (hr : r ∈ ordersF 3 [0, 1, 2]) {i : Nat} (hi : i < 3) : ∃ j : Nat, r[i]? = some (j : Int) ∧ j < 3 ∧ hereF r i < 8 ∧ hereF r i / 2 ^ j % 2 = 0 ∧ hereF r (i + 1) = hereF r i + 2 ^ j ∧ hereF r (i + 1) < 8 := by
  have h := orders_ok r hr i hi
  unfold okOrder at h
  simp only [Bool.and_eq_true, decide_eq_true_eq, beq_iff_eq] at h
  obtain ⟨⟨h1, h2, h3⟩, h4, h5, h6, h7⟩ := h
  refine ⟨(r.getD i 0).toNat, ?_, by omega, h4, h5, h6, h7⟩
  rw [Int.toNat_of_nonneg h2, List.getD_eq_getElem?_getD, List.getElem?_eq_getElem (by omega)]; rfl
theorem order_len {r : List Int} (hr : r ∈ ordersF 3 [0, 1, 2]) : r.length = 3 := by
  have : ∀ r ∈ ordersF 3 [0, 1, 2], r.length = 3 := by decide
  exact this r hr
theorem none_not_any : ∀ ns : List Int, ((ns.map PyData.int).any fun y => PyData.eqv y PyData.none) = false
  | [] => rfl
  | n :: r => by simp [PyData.eqv, none_not_any r]
theorem in_none_ints {prog : Program} {w : World} {A : Around} {E : Value → Shared → Prop} {s : Shared} {Q : Value → Shared → Prop} {h₀ : Heap} {L : Addr} {nw : List (Addr × Obj)} {l : Addr} {vs : List Value} {ns : List Int} {k : Nat} (N : News h₀ L s.heap nw) (hm : (l, listOf vs.toArray k) ∈ nw) (hi : IntsAre vs ns) (hu : A.units + 64 < cLine) (h : Q (.bool false) s) :
    wpAny (model prog w) A (compareOp .In .none (.ref l)) Q E s := by
  have hl : s.heap.IsList l vs.toArray := ⟨_, (N _ hm).1, rfl, k, rfl⟩
  refine SeqAt.in_list_reads (reads_of_ints hl hi) Reads.none (ke_canLayAll0 ns) rfl ?_ ?_
  · show A.units + 1 + min (PyData.depthAll (ns.map PyData.int)) 0 < cLine
    rw [Nat.min_zero]; omega
  · rw [none_not_any]; exact h
end Mine
end

section
open PySem PySem.W PyProof.Rows PySem.Spec PySem.Calls
namespace Mine
noncomputable def ordSt : List Str := [Str.ofString "order", Str.ofString "here", Str.ofString "told", Str.ofString "due", Str.ofString "j"]
noncomputable def lawM (l D1 D2 D4 D5 : Addr) : Str → Option Value := upd (upd (upd (upd (upd (fun _ => none) (Str.ofString "script") (.ref l)) (Str.ofString "numbers") (.ref D1)) (Str.ofString "others") (.ref D2)) (Str.ofString "turned") (.ref D4)) (Str.ofString "rows") (.ref D5)
noncomputable def stM (u : Str → Option Value) (A B C : Value) (m₀ : Str → Option Value) : Str → Option Value := fun z => if z = Str.ofString "here" then some A else if z = Str.ofString "told" then some B else if z = Str.ofString "due" then some C else if ordSt.contains z = true then u z else m₀ z
theorem ord_map {m' m₀ : Str → Option Value} {A B C : Value} (h1 : m' (Str.ofString "here") = some A) (h2 : m' (Str.ofString "told") = some B) (h3 : m' (Str.ofString "due") = some C) (h : ∀ z, ordSt.contains z = false → m' z = m₀ z) : ∃ u, m' = stM u A B C m₀ := by
  refine ⟨m', funext fun z => ?_⟩
  unfold stM
  by_cases e1 : z = Str.ofString "here"
  · rw [if_pos e1, e1]; exact h1
  · rw [if_neg e1]
    by_cases e2 : z = Str.ofString "told"
    · rw [if_pos e2, e2]; exact h2
    · rw [if_neg e2]
      by_cases e3 : z = Str.ofString "due"
      · rw [if_pos e3, e3]; exact h3
      · rw [if_neg e3]
        cases hz : ordSt.contains z with
        | true => rw [if_pos rfl]
        | false => rw [if_neg (by decide)]; exact h z hz
theorem ord_out {z : Str} (h : ordSt.contains z = false) : z ≠ Str.ofString "order" ∧ z ≠ Str.ofString "here" ∧ z ≠ Str.ofString "told" ∧ z ≠ Str.ofString "due" ∧ z ≠ Str.ofString "j" := by
  unfold ordSt at h
  simpa only [List.contains_cons, List.contains_nil, Bool.or_false, Bool.or_eq_false_iff, beq_eq_false_iff_ne, ne_eq] using h
theorem rs_lt {cc rr j : Nat} (hc : cc < 3) (hr : rr < 12) (hj : j < 3) : (rsOf cc rr).getD j 0 < 12 := by
  match j, hj with
  | 0, _ => show 6 - 3 * cc < 12; omega
  | 1, _ => show 11 - cc < 12; omega
  | 2, _ => exact hr
noncomputable def QuotIs (q m k : Nat) : Prop := m / 2 ^ k = q
theorem ord_base {m₀ u : Str → Option Value} {A B C : Value} : ∃ u' : Str → Option Value, stM u A B C m₀ = fun z => if ordSt.contains z = true then u' z else m₀ z :=
  stored_ex fun z hz => by
    obtain ⟨z1, z2, z3, z4, z5⟩ := ord_out hz
    unfold stM
    rw [if_neg z2, if_neg z3, if_neg z4, if_neg (by rw [hz]; decide)]
theorem ord_end {h₀ h : Heap} {L Dt : Addr} {m₀ u : Str → Option Value} {v : Value} {w1 w2 : Option Value} {a b a' b' : Int} {tx ty : Tok}
    (F : Fr h₀ L h (fun z => if z = Str.ofString "here" then some (.int a tx) else if z = Str.ofString "due" then some (.int b ty) else if z = Str.ofString "j" then some v else if z = Str.ofString "here" then w1 else if z = Str.ofString "told" then some (.ref Dt) else if z = Str.ofString "due" then w2 else if [Str.ofString "order", Str.ofString "here", Str.ofString "told", Str.ofString "due", Str.ofString "j"].contains z = true then u z else m₀ z)) (ea : a = a') (eb : b = b') :
    ∃ u', Fr h₀ L h (stM u' (.int a' tx) (.ref Dt) (.int b' ty) m₀) := by
  subst ea eb
  obtain ⟨u', hu⟩ := ord_map (m₀ := m₀) (A := .int a tx) (B := .ref Dt) (C := .int b ty) (m' := fun z => if z = Str.ofString "here" then some (.int a tx) else if z = Str.ofString "due" then some (.int b ty) else if z = Str.ofString "j" then some v else if z = Str.ofString "here" then w1 else if z = Str.ofString "told" then some (.ref Dt) else if z = Str.ofString "due" then w2 else if [Str.ofString "order", Str.ofString "here", Str.ofString "told", Str.ofString "due", Str.ofString "j"].contains z = true then u z else m₀ z)
    (by rw [if_pos rfl]) (by rw [if_neg (by decide), if_neg (by decide), if_neg (by decide), if_neg (by decide), if_pos rfl]) (by rw [if_neg (by decide), if_pos rfl]) (fun z hz => by
      obtain ⟨z1, z2, z3, z4, z5⟩ := ord_out hz
      unfold ordSt at hz
      rw [if_neg z2, if_neg z4, if_neg z5, if_neg z2, if_neg z3, if_neg z4, hz]; rfl)
  exact ⟨u', fr_eq F hu⟩
theorem exec_yes {m r q : Nat} (hin : (([0, 3, 6] : List Int).any fun x => x == (r : Int)) = true) (hq : QuotIs q m (9 + r / 3)) (h : ((q % 2 : Nat) : Int) = 1) : execOn m r = true := by
  unfold execOn bitOf
  have h1 : (r == 0 || r == 3 || r == 6) = true := by
    simp only [List.any_cons, List.any_nil, Bool.or_false, Bool.or_eq_true, beq_iff_eq] at hin ⊢
    omega
  have h2 : q % 2 = 1 := by omega
  rw [h1, show m / 2 ^ (9 + r / 3) = q from hq, h2]; rfl
theorem exec_no1 {m r : Nat} (hin : (([0, 3, 6] : List Int).any fun x => x == (r : Int)) = false) : execOn m r = false := by
  unfold execOn
  have h1 : (r == 0 || r == 3 || r == 6) = false := by
    simp only [List.any_cons, List.any_nil, Bool.or_false, Bool.or_eq_false_iff, beq_eq_false_iff_ne] at hin ⊢
    omega
  rw [h1]; rfl
theorem exec_no2 {m r q : Nat} (hq : QuotIs q m (9 + r / 3)) (h : ((q % 2 : Nat) : Int) ≠ 1) : execOn m r = false := by
  unfold execOn bitOf
  have h2 : (q % 2 == 1) = false := by
    rw [beq_eq_false_iff_ne]; omega
  rw [show m / 2 ^ (9 + r / 3) = q from hq, h2, Bool.and_false]
theorem sum_snoc {ns : List Int} {j : Nat} {c d du du' : Int} (h : ns.sum = 2 * (j : Int) - 6 + du) (e : c = d) (h2 : d - du' = 2 - du) : (ns ++ [c]).sum = 2 * ((j + 1 : Nat) : Int) - 6 + du' := by
  rw [List.sum_append, h, List.sum_singleton]; omega
theorem three_of {vs : List Value} {ns : List Int} (h : IntsAre vs ns) (hl : ns.length = 3) : ∃ (a b c : Int) (t1 t2 t3 : Tok), vs = [.int a t1, .int b t2, .int c t3] ∧ ns = [a, b, c] := by
  obtain ⟨a, b, c, rfl⟩ := list3 hl
  obtain ⟨t1, v1, rfl, h1⟩ := h.cons_inv
  obtain ⟨t2, v2, rfl, h2⟩ := h1.cons_inv
  obtain ⟨t3, v3, rfl, h3⟩ := h2.cons_inv
  obtain rfl := h3.nil_inv
  exact ⟨a, b, c, t1, t2, t3, rfl, rfl⟩
inductive TurnJ (rest : List (Addr × Obj)) (Dt : Addr) (m₀ : Str → Option Value) (r : List Int) (j : Nat) (m₂ : Str → Option Value) (nw : List (Addr × Obj)) : Prop
  | intro (tvs : List Value) (ns : List Int) (u : Str → Option Value) (t1 t2 : Tok) (du : Int) (e : nw = (Dt, listOf tvs.toArray j) :: rest) (hts : IntsAre tvs ns) (hnl : ns.length = j) (hns : ns.sum = 2 * (j : Int) - 6 + du) (em : m₂ = stM u (.int ((hereF r j : Nat) : Int) t1) (.ref Dt) (.int du t2) m₀)
inductive OrdJ (led : List (Addr × Obj)) (m₀ : Str → Option Value) (_j : Nat) (m₁ : Str → Option Value) (nw : List (Addr × Obj)) : Prop
  | intro (e : nw = led) (u : Str → Option Value) (em : m₁ = fun z => if ordSt.contains z = true then u z else m₀ z)
theorem OrdJ.mk {led : List (Addr × Obj)} {m₀ : Str → Option Value} {i : Nat} {m₁ : Str → Option Value} (h : ∃ u : Str → Option Value, m₁ = fun z => if ordSt.contains z = true then u z else m₀ z) : OrdJ led m₀ i m₁ led := let ⟨u, e⟩ := h; ⟨rfl, u, e⟩
theorem lt_of6 {D a b c d e f : Addr} {oa ob oc od oe of' : Obj} {r : List (Addr × Obj)} (h : a < D ∧ b < D ∧ c < D ∧ d < D ∧ e < D ∧ f < D ∧ AllLt D r) : ∀ p ∈ (a, oa) :: (b, ob) :: (c, oc) :: (d, od) :: (e, oe) :: (f, of') :: r, p.1 < D := by
  intro p hp
  revert p; exact (all_cons (h.1) (all_cons (h.2.1) (all_cons (h.2.2.1) (all_cons (h.2.2.2.1) (all_cons (h.2.2.2.2.1) (all_cons (h.2.2.2.2.2.1) (fun p hp => (kst_ltOf h.2.2.2.2.2.2 p hp))))))))
end Mine
end

section
open PySem PySem.W PyProof.Rows PySem.Spec PySem.Calls
namespace Mine
theorem far_ne {K m r0 r1 r2 : Nat} (h0 : r0 < 12) (h1 : r1 < 12) (h2 : r2 < 12) (hp : place r0 = place r1) (hq : place r2 ≠ place r0) : rowM K m ≠ rowM K (((m ^^^ 2 ^ r0) ^^^ 2 ^ r1) ^^^ 2 ^ r2) := by
  intro h
  have hp2 : place r2 < 9 := by unfold place; split <;> omega
  have e : ∀ k < 9, sgSign m k = sgSign (((m ^^^ 2 ^ r0) ^^^ 2 ^ r1) ^^^ 2 ^ r2) k := fun k hk => by
    unfold rowM at h
    injection h with _ h
    have g := congrArg (fun l : List Nat => l[k]?) h
    simp only [List.getElem?_map, List.getElem?_range hk, Option.map_some] at g
    exact Option.some.inj g
  have g := e (place r2) hp2
  have g2 := step_price (m := (m ^^^ 2 ^ r0) ^^^ 2 ^ r1) h2
  rw [sign_same h1 hp2 (hp ▸ hq), sign_same h0 hp2 hq, g, cost_self] at g2
  split at g2 <;> omega
noncomputable def okPlace (c rr : Nat) : Bool := rr == 6 - 3 * c || rr == 11 - c || (place (6 - 3 * c) == place (11 - c) && place rr != place (6 - 3 * c))
theorem places_ok : ∀ c < 3, ∀ rr < 12, okPlace c rr = true := by decide
theorem places_at {c rr : Nat} (hc : c < 3) (hr : rr < 12) (h1 : rr ≠ 6 - 3 * c) (h2 : rr ≠ 11 - c) : place (6 - 3 * c) = place (11 - c) ∧ place rr ≠ place (6 - 3 * c) := by
  have h := places_ok c hc rr hr
  unfold okPlace at h
  simp only [Bool.or_eq_true, Bool.and_eq_true, beq_iff_eq, bne_iff_ne, ne_eq] at h
  rcases h with (h | h) | h
  · exact absurd h h1
  · exact absurd h h2
  · exact h
theorem turn_seven {bt c rr : Nat} (hc : c < 3) (hr : rr < 12) (h1 : rr ≠ 6 - 3 * c) (h2 : rr ≠ 11 - c) : turnN bt (rsOf c rr) 7 = ((turnN bt (rsOf c rr) 0 ^^^ 2 ^ (6 - 3 * c)) ^^^ 2 ^ (11 - c)) ^^^ 2 ^ rr := by
  have e1 : turnN bt (rsOf c rr) 1 = turnN bt (rsOf c rr) 0 ^^^ 2 ^ (6 - 3 * c) := turn_step (h := 0) (j := 0) (by decide) (by decide) (by decide) hc hr h1 h2
  have e3 : turnN bt (rsOf c rr) 3 = turnN bt (rsOf c rr) 1 ^^^ 2 ^ (11 - c) := turn_step (h := 1) (j := 1) (by decide) (by decide) (by decide) hc hr h1 h2
  have e7 : turnN bt (rsOf c rr) 7 = turnN bt (rsOf c rr) 3 ^^^ 2 ^ rr := turn_step (h := 3) (j := 2) (by decide) (by decide) (by decide) hc hr h1 h2
  rw [e7, e3, e1]
theorem shift_row {x : List Nat} (hx : x.length = 10) : levF (x.take 9) (x.drop 1) 99 = min 4 (sumZ (x.take 9) (x.drop 1)) := by
  refine levF_shift (by rw [List.length_take, List.length_drop, hx]; rfl) (fun i hi => ?_) ?_
  · rw [List.length_take, hx] at hi
    rw [List.getD_eq_getElem?_getD, List.getD_eq_getElem?_getD, List.getElem?_drop, List.getElem?_take, if_pos (by omega), Nat.add_comm]
  · have := sumZ_le (x.take 9) (x.drop 1)
    rw [List.length_take, hx] at this
    exact Int.le_trans this (by decide)
theorem pre_row {x : List Nat} (hx : x.length = 10) (mc : Int) : levF (x.take 3) x mc = 14 := by
  have hl : (x.drop 3).length = 7 := by rw [List.length_drop, hx]
  have h := levF_pre (a := x.take 3) (b := x.drop 3) (by intro e; rw [e] at hl; cases hl) mc
  rw [List.take_append_drop, hl] at h
  exact h
/-- what the law's end asks of the first row and of the last -/
structure RowFacts (x y : List Nat) : Prop where
  lx : x.length = 10
  ly : y.length = 10
  pos : 1 ≤ sumZ x y
  le4 : sumZ x y ≤ 4
  f1 : levF x y 99 = sumZ x y
  f2 : levF y x (sumZ x y) = sumZ x y
  f3 : sumZ x y ≤ levF x y (sumZ x y - 1)
  sh : levF (x.take 9) (x.drop 1) 99 = min 4 (sumZ (x.take 9) (x.drop 1))
  s1 : levF [42] x 99 = 20
  s2 : levF [42] x 17 = 18
  pre : levF (x.take 3) x 0 = 14
  self : levF x x 0 = 0
theorem row_facts {kd bt c rr : Nat} (hk : kd ∈ [8, 4, 10, 2, 6, 1, 12, 3]) (hc : c < 3) (hr : rr < 12) (h1 : rr ≠ 6 - 3 * c) (h2 : rr ≠ 11 - c) : RowFacts (rowM (kindCh kd) (turnN bt (rsOf c rr) 0)) (rowM (kindCh kd) (turnN bt (rsOf c rr) 7)) := by
  obtain ⟨hp, hq⟩ := places_at hc hr h1 h2
  rw [turn_seven hc hr h1 h2]
  generalize turnN bt (rsOf c rr) 0 = m
  have hl : (rowM (kindCh kd) m).length = (rowM (kindCh kd) (((m ^^^ 2 ^ (6 - 3 * c)) ^^^ 2 ^ (11 - c)) ^^^ 2 ^ rr)).length := by rw [rowM_length, rowM_length]
  have p1 := sumZ_pos _ _ hl (far_ne (K := kindCh kd) (m := m) (by omega) (by omega) hr hp hq)
  have p4 := far_rows (K := kindCh kd) (m := m) (r0 := 6 - 3 * c) (r1 := 11 - c) (r2 := rr) (by omega) (by omega) hr hp
  obtain ⟨f1, f2, f3⟩ := far_lev hl p1 p4
  exact ⟨rowM_length _ _, rowM_length _ _, p1, p4, f1, f2, f3, shift_row (rowM_length _ _), (levF_star (rowM_length _ _) (row_42 hk)).1 rfl, (levF_star (rowM_length _ _) (row_42 hk)).2 rfl, pre_row (rowM_length _ _) 0, levF_self _ _⟩
end Mine
end

section
open PySem PySem.W PyProof.Rows PySem.Spec PySem.Calls
namespace Mine
section
variable {w : World} {mean : ExcName → Option Value} {mg mb : Str → Option Value} {news : List (Addr × Obj)}
  {dp un : Nat} {gd : Option (List Code)} {cn : Str} {cs : Scope} {a : Addr} {ccd : Value} {cl : List (Str × Addr)} {outer : List Env} {A₀ : Around} {base h₀ : Heap} {L : Addr} {m : Str → Option Value} {s : Shared} {Q E : Value → Shared → Prop}
theorem lev_at {hS : Heap} {gS : Array GenState} {dS : Drawn} {tS : Nat} {oS : OsState} {x y : List Nat} {mc v : Int} {tx ty tm : Tok} (e : levF x y mc = v) (hx : x.length ≤ 40) (hy : y.length ≤ 40) (hmc : -1 ≤ mc ∧ mc ≤ 1000)
    (B : Below A₀ base outer h₀) (F : Fr h₀ L hS m) (X : (hd.heap_39 w.params).In h₀) (N : News h₀ L hS news) (T : Top hd.view_39 (looseW hd.view_39 [Str.ofString "_filemode_table"]) mean mg mb h₀) (hk : cs.kind = .function)
    (hdp : dp + 2 < recursionLimit) (hun : un + 16 < cLine) (hret : ∀ (t : Tok) (h' : Heap) (tk' : Nat), Fr h₀ L h' m → News h₀ L h' news → Q (.int v t) ⟨h', gS, dS, tk', oS⟩) :
    wpAny (model Challenge.rw_pe0142_01.row.prog w) (ktrTop dp un gd cn cs L a ccd cl outer) (call (.ref 28) [.str (S x) tx, .str (S y) ty, .int mc tm]) Q E ⟨hS, gS, dS, tS, oS⟩ := by
  subst e
  exact lev_use hx hy hmc B F X N T hk hdp hun hret
theorem star_at {hS : Heap} {gS : Array GenState} {dS : Drawn} {tS : Nat} {oS : OsState} {y : List Nat} {mc v : Int} {tx ty tm : Tok} (e : levF [42] y mc = v) (hy : y.length ≤ 40) (hmc : -1 ≤ mc ∧ mc ≤ 1000)
    (B : Below A₀ base outer h₀) (F : Fr h₀ L hS m) (X : (hd.heap_39 w.params).In h₀) (N : News h₀ L hS news) (T : Top hd.view_39 (looseW hd.view_39 [Str.ofString "_filemode_table"]) mean mg mb h₀) (hk : cs.kind = .function)
    (hdp : dp + 2 < recursionLimit) (hun : un + 16 < cLine) (hret : ∀ (t : Tok) (h' : Heap) (tk' : Nat), Fr h₀ L h' m → News h₀ L h' news → Q (.int v t) ⟨h', gS, dS, tk', oS⟩) :
    wpAny (model Challenge.rw_pe0142_01.row.prog w) (ktrTop dp un gd cn cs L a ccd cl outer) (call (.ref 28) [.str (Str.ofString "*") tx, .str (S y) ty, .int mc tm]) Q E ⟨hS, gS, dS, tS, oS⟩ := by
  rw [show Str.ofString "*" = S [42] from by decide +kernel]
  exact lev_at e (by decide) hy hmc B F X N T hk hdp hun hret
end

end Mine
end
section
open PySem PySem.W PyProof.Rows PySem.Spec PySem.Calls
namespace Mine
set_option maxRecDepth 100000 in
set_option maxHeartbeats 400000000 in
theorem holds : PySem.Challenge.rw_pe0142_01.Holds := hd (by
  k_go0
  w_top off
  k_with_none
  k_with "execs cons" => ((refine stopped_of ?_))
  (all_goals try k_fold)
  k_steps
  k_with_none
  k_with "execs cons" => (((try k_gentoks); (try clear qk); (try clear ek); (try k_fold); (with_reducible refine wpAny_execs_cons ?_); k_fold; (try dsimp only)))
  k_with "exec Assign cons ListComp" => (((with_unfolding_all refine' AssignLc_at ?kF ?k0 ?k1 ?k2 ?k3 ?k4 ?k5 ?k6 ?k7 ?_ ?k8; (case kF => assumption); (case k0 => rfl); (case k1 => rfl); (case k2 => rfl); (case k3 => decide); (case k4 => rfl); (case k5 => decide); (case k6 => rfl); (case k7 => rfl); (case k8 => exact fun _ => rfl); k_whole)))
  k_with "call type:zip" => ((refine stopped_of ?_))
  refine Stopped.mk ?_
  rename_i s₁ mg mb GG YY fa fo pm doc hfo hgens KX MX VV GL TT BB TE TW w5 w6 MM w7 w8 hcd ns hs1 hs2 hs3 hs4 hs5 w2 w3 l vs w4 hL hra hwl hrd hi haw hlen htrue hbel hdf h1 tk1 F1 oR oC oB oK dR dC dB dK N1 XC
  obtain ⟨sh, sg, sd, stk, sos⟩ := s₁
  dsimp only at F1 N1 ⊢
  replace dR : oR.data = .cell none := dR
  replace dC : oC.data = .cell none := dC
  replace dB : oB.data = .cell none := dB
  replace dK : oK.data = .cell none := dK
  clear XC
  replace F1 := fr_eq (m' := upd (fun _ => none) (Str.ofString "script") (.ref l)) F1 (fmap_set rfl (fun y hy => by
    show (if y = Str.ofString "script" then some (Value.ref l) else none) = none
    rw [if_neg hy]))
  refine cut_made (Str.ofString "numbers") (fun vs' => ∃ n0 n1 n2, IntsAre vs' [n0, n1, n2]) F1 N1 ?_ ?_
  · k_sweep
    k_steps
    refine Stopped.mk ?_
    rename Fr _ _ _ _ => F2
    rename News _ _ _ _ => N2
    rename_i D9 ws9 _ _ _ hI9 l9
    obtain ⟨n0, n1, n2, t1, t2, t3, e9⟩ := three_ints hI9 (by simp; omega)
    subst e9
    refine lcZipL (xs := [.int 3565 _, .int 0 _, .int 3 _]) rfl F2 N2 (.tail _ (.tail _ (.tail _ (.tail _ (.tail _ (.head _)))))) (.head _) rfl ?_
    intro I hI fp wr Md St XS F3 N3
    refine LcAt.go (fun i ys nw => _ = nw ∧ ∃ ks, ks.length = i ∧ IntsAre ys ks) (by rw [sizeLine_eq]; simp) XS F3 N3 (⟨rfl, [], rfl, .nil⟩) ?_ ?_
    · intro i v ys news₁ own C oC D m₂ h tk E' hi8 hP hJ O off offO hCD hC F N
      k_fold
      obtain ⟨rfl, ks, hks, hys⟩ := hJ
      obtain ⟨T0, a9, b9, rfl, ⟨ha, hb⟩, hT⟩ := hP
      obtain ⟨xa, ta, rfl⟩ := int_at (l := [3565, 0, 3]) (.cons _ _ (.cons _ _ (.cons _ _ .nil))) ha
      obtain ⟨xb, tb, rfl⟩ := int_at (l := [n0, n1, n2]) (.cons _ _ (.cons _ _ (.cons _ _ .nil))) hb
      refine asg_pair rfl F N hC (offC off offO hCD) hT rfl rfl rfl (by decide) ?_
      clear F N hC
      intro h3 tk3 oC' m₃ F hC hx1 hx2 N
      try k_unfold
      dsimp only [LcBody]
      k_sweep
      k_steps
      exact LcEnd.mk _ F N hC (fun p hp => hp) off ⟨rfl, ks ++ [xa + xb], by simp [hks], hys.append (.cons _ _ .nil)⟩
    · intro D ys nw h3 tk3 hJ F N hoff
      obtain ⟨rfl, ks, hks, hys⟩ := hJ
      obtain ⟨m0, m1, m2, rfl⟩ := list3 hks
      exact Made.mk ys.length F N hoff (fun p hp => .tail _ (.tail _ (.tail _ (.tail _ (.tail _ (.tail _ hp)))))) ⟨_, _, _, hys⟩
  clear F1 N1
  intro D1 k1 y1 h2 tk2 F1 N1 hD1 hy1
  obtain ⟨n0, n1, n2, hy1⟩ := hy1
  k_sweep
  k_with_none
  k_with "execs cons" => (((try k_gentoks); (try clear qk); (try clear ek); (try k_fold); (with_reducible refine wpAny_execs_cons ?_); k_fold; (try dsimp only)))
  k_with "binaryOp FloorDiv int int" => ((with_reducible refine fdiv_4096 ?_; intro _ _))
  k_with "binaryOp Mod int int" => ((with_reducible refine imod (by decide) ?_; intro _ _ _))
  with_reducible refine cut_cells F1 N1 ?_ ?_
  · have g1 : D1 ≠ sh.objs.size + 1 := Ne.symm (hD1 _ (.tail _ (.tail _ (.tail _ (.head _)))))
    have g2 : D1 ≠ sh.objs.size + 1 + 1 := Ne.symm (hD1 _ (.tail _ (.tail _ (.head _))))
    have g3 : D1 ≠ sh.objs.size + 1 + 1 + 1 := Ne.symm (hD1 _ (.tail _ (.head _)))
    k_steps
    rename Fr _ _ _ _ => F2
    rename News _ _ _ _ => N2
    rename_i oK' eK _ oB' eB _ oC' eC
    refine ⟨rfl, _, _, _, oC', oB', oK', _, _, _, _, _, rfl, kind_in (by assumption), by assumption, by assumption, eC, eB, kind_cell eK (by assumption), F2, fun p hp => N2 p (.tail _ (.tail _ hp))⟩
  clear F1 N1
  intro kd bt cc oC' oB' oK' t1 t2 t3 h' tk' hkd hbt hcc eC eB eK F1 N1
  replace N1 : News sh sh.objs.size h' [(D1, listOf y1.toArray k1), (sh.objs.size + 1 + 1 + 1 + 1, oR), (sh.objs.size + 1 + 1 + 1, oC'), (sh.objs.size + 1 + 1, oB'), (sh.objs.size + 1, oK')] := N1
  k_sweep
  k_with_none
  k_with "execs cons" => (((try k_gentoks); (try clear qk); (try clear ek); (try k_fold); (with_reducible refine wpAny_execs_cons ?_); k_fold; (try dsimp only)))
  k_with "exec Assign cons ListComp" => (((with_unfolding_all refine' AssignLc_at ?kF ?k0 ?k1 ?k2 ?k3 ?k4 ?k5 ?k6 ?k7 ?_ ?k8; (case kF => assumption); (case k0 => rfl); (case k1 => rfl); (case k2 => rfl); (case k3 => decide); (case k4 => rfl); (case k5 => decide); (case k6 => rfl); (case k7 => rfl); (case k8 => exact fun _ => rfl); k_whole)))
  k_with "pyIter ref" => ((refine stopped_of ?_))
  k_with "LcEnd" => ((refine stopped_of ?_))
  k_with "binaryOp Mod int int" => ((with_reducible refine imod (by decide) ?_; intro _ _ _))
  with_reducible refine cut_made (Str.ofString "others") (fun vs' => IntsAre vs' (othersUpto cc 12)) F1 N1 ?_ ?_
  · k_steps
    refine Stopped.mk ?_
    rename Fr _ _ _ _ => F2
    rename News _ _ _ _ => N2
    refine lcRange (n := 12) rfl F2 N2 (by assumption) (by decide) (by decide) ?_
    intro I hI fp wr Md St XS F3 N3
    refine LcAt.go (fun i ys nw => _ = nw ∧ IntsAre ys (othersUpto cc i)) (by rw [sizeLine_eq]; simp) XS F3 N3 (⟨rfl, .nil⟩) ?_ ?_
    · intro i v ys news₁ own C oC D m₂ h tk E' hi8 hP hJ O off offO hCD hC F N
      k_fold
      obtain ⟨rfl, hys⟩ := hJ
      obtain ⟨tv, rfl⟩ := hP
      refine asg_name F N hC (offC off offO hCD) rfl rfl ?_
      clear F N
      intro h' tk' oC' m₃ F hC' hx1 N
      try k_unfold
      dsimp only [LcBody]
      k_sweep
      k_steps
      · rename_i hq
        refine Stopped.mk ?_
        exact LcEnd.mk _ (by k_asm) (News.tail' (by k_asm)) hC' (fun p hp => hp) off ⟨rfl, others_in hcc hys hq⟩
      · rename_i hq
        refine Stopped.mk ?_
        exact LcEnd.mk _ (by k_asm) (News.tail' (by k_asm)) hC' (fun p hp => hp) off ⟨rfl, others_out hcc hys hq⟩
    · intro D ys nw h3 tk3 hJ F N hoff
      obtain ⟨rfl, hys⟩ := hJ
      dsimp only at F N
      exact Made.mk ys.length F N hoff (fun p hp => hp) hys
  clear F1 N1
  intro D2 k2 y2 h2 tk2 F1 N1 hD2 hy2
  k_sweep
  k_with_none
  k_with "execs cons" => (((try k_gentoks); (try clear qk); (try clear ek); (try k_fold); (with_reducible refine wpAny_execs_cons ?_); k_fold; (try dsimp only)))
  k_with "binaryOp Mod int int" => ((with_reducible refine imod (by decide) ?_; intro _ _ _))
  with_reducible refine cut_rights (aR := sh.objs.size + 1 + 1 + 1 + 1) (cc := cc) (rest' := [(sh.objs.size + 1 + 1 + 1, oC'), (sh.objs.size + 1 + 1, oB'), (sh.objs.size + 1, oK')]) F1 ?_ ?_
  · have g1 : D1 ≠ sh.objs.size + 1 + 1 + 1 + 1 := Ne.symm (hD1 _ (.head _))
    have g2 : D2 ≠ sh.objs.size + 1 + 1 + 1 + 1 := Ne.symm (hD2 _ (.tail _ (.head _)))
    have hlen2 : (othersUpto cc 12).length = 10 := by
      have := (by decide : ∀ c : Nat, c < 3 → (othersUpto c 12).length = 10)
      exact this cc hcc
    k_steps
    rename Fr _ _ _ _ => F2
    rename News _ _ _ _ => N2
    rename_i r9 hr9 _ _ l9 _ ll _ o9 d9
    obtain ⟨rr, e9, hq1, hq2, hq3⟩ := others_at (cc := cc) (r := r9) hcc hr9
    refine RightsSet.mk F2 N2 e9 hq1 hq2 hq3 d9 ?_
    intro p hp
    simp only [List.mem_cons, List.not_mem_nil, or_false] at hp
    rcases hp with rfl | rfl | rfl | rfl
    · exact Nat.ne_of_lt ll.2.2.1
    · exact Nat.ne_of_lt ll.2.2.2.1
    · exact Nat.ne_of_lt ll.2.2.2.2.1
    · exact Nat.ne_of_lt ll.2.2.2.2.2
  clear F1 N1
  intro rr D3 k3 y3 oR' h3 tk3 hr1 hr2 hr3 hy3 hR3 hg3 F1 N1
  k_sweep
  k_with_none
  k_with "execs cons" => (((try k_gentoks); (try clear qk); (try clear ek); (try k_fold); (with_reducible refine wpAny_execs_cons ?_); k_fold; (try dsimp only)))
  k_with "my lcx_one LLw5" => (((with_unfolding_all refine' AssignLcx_at ?kF ?k0 ?k1 ?k2 ?k3 ?k4 ?k5 ?k6 ?k7 ?k8 ?k9 ?_ ?kA; (case kF => assumption); (case k0 => rfl); (case k1 => rfl); (case k2 => rfl); (case k3 => rfl); (case k4 => intro n acc e; subst e; rfl); (case k5 => intro h; rfl); (case k6 => rfl); (case k7 => decide); (case k8 => rfl); (case k9 => rfl); (case kA => exact fun _ => rfl))))
  k_with "exec Assign cons ListComp" => ((refine stopped_of ?_))
  k_with "eval ListComp" => ((refine stopped_of ?_))
  k_with "pyIter ref" => ((refine stopped_of ?_))
  k_with "LcEnd" => ((refine stopped_of ?_))
  k_with "my lc_one LLw5" => (((with_unfolding_all refine' ListComp_at ?kF ?k1 ?k2 ?k3 ?k4 ?_ ?k5; (case kF => assumption); (case k1 => with_unfolding_all rfl); (case k2 => decide); (case k3 => rfl); (case k4 => decide); (case k5 => exact fun _ => rfl))))
  k_with "binaryOp Pow int int" => (first | (with_reducible refine pow_nat (by omega) ?_; intro _) | (refine stopped_of ?_))
  k_with "binaryOp FloorDiv int int" => (first | (with_reducible refine fdiv_3 ?_; intro _) | (with_reducible refine fdiv_pow (by omega) ?_; intro _))
  k_with "binaryOp Mod int int" => (first | (with_reducible refine fmod_2 ?_; intro _) | (with_reducible refine fmod_3 ?_; intro _))
  with_reducible refine cut_made (Str.ofString "turned") (fun vs' => IntsAre vs' ((List.range 8).map (turnF bt (rsOf cc rr)))) F1 N1 ?_ ?_
  · k_steps
    refine Stopped.mk ?_
    walk_at "my lcx_one LLw5"
    k_steps
    refine Stopped.mk ?_
    rename Fr _ _ _ _ => F2
    rename News _ _ _ _ => N2
    refine lcxRange (n := 8) rfl F2 N2 (by assumption) (by decide) (by decide) ?_
    intro I hI fp wr Md St XS F3 N3
    refine LcxAt.go (fun i ys nw => _ = nw ∧ IntsAre ys ((List.range i).map (turnF bt (rsOf cc rr)))) (fun _ _ _ _ h => h) XS F3 N3 (⟨rfl, .nil⟩) ?_ ?_
    · intro i v ys news₁ own C X oC oX D m₂ h tk E' hi9 hP hJ O off offO hCX hCD hXD hC hX F N
      obtain ⟨rfl, hys⟩ := hJ
      obtain ⟨tv, hv⟩ := hP
      rw [Int.zero_add] at hv
      subst hv
      have hlen : ys.length = i := by rw [hys.length]; simp
      refine Body1.of' (ys := ys) (by omega) (fun p hp => (offO p hp).2.2) hCD hXD ?_
      dsimp only [LcBody]
      k_sweep
      k_steps
      refine Stopped.mk ?_
      walk_at "my lc_one LLw5"
      k_steps
      refine Stopped.mk ?_
      rename Fr _ _ _ _ => F7
      rename News _ _ _ _ => N7
      refine lcRange (n := 3) rfl F7 N7 (by assumption) (by decide) (by decide) ?_
      intro I2 hI2 fp2 wr2 Md2 St2 XS2 F8 N8
      refine LcAt.go (fun i2 ys2 nw => _ = nw ∧ IntsAre ys2 (masks (rsOf cc rr) i i2)) (by rw [sizeLine_eq]; simp) XS2 F8 N8 (⟨rfl, .nil⟩) ?_ ?_
      · intro j v2 ys2 news2 own2 C2 oC2 D2 m3 h3 tk3 E2 hi2 hP2 hJ2 O2 off2 offO2 hCD2 hC2 F N
        k_fold
        obtain ⟨rfl, hys2⟩ := hJ2
        obtain ⟨tv2, hv2⟩ := hP2
        rw [Int.zero_add] at hv2
        subst hv2
        refine asg_name F N hC2 (offC off2 offO2 hCD2) rfl rfl ?_
        clear F N
        intro h' tk' oC' m₃ F hC' hx1 N
        try k_unfold
        dsimp only [LcBody]
        k_sweep
        have hrs := rs_at (cc := cc) (rr := rr) (j := j) hcc hr1 hi2
        k_steps
        · refine Stopped.mk ?_
          rw [hrs.1]
          refine pow_nat hrs.2 ?_
          intro _
          k_steps
          refine Stopped.mk ?_
          exact LcEnd.mk _ (by k_asm) (by k_asm) hC' (fun p hp => hp) off2 ⟨rfl, by rw [masks_succ, if_pos (by omega)]; exact hys2.append (.cons _ _ .nil)⟩
        · refine Stopped.mk ?_
          exact LcEnd.mk _ (by k_asm) (by k_asm) hC' (fun p hp => hp) off2 ⟨rfl, by rw [masks_succ, if_neg (by omega), List.append_nil]; exact hys2⟩
      · intro D2 ys2 nw h3 tk3 hJ F N hoff
        obtain ⟨rfl, hys2⟩ := hJ
        dsimp only at F N
        k_sweep
        k_steps
        exact LcxEl.mk _ (by k_asm) (by k_asm) hC hX (fun p hp => .tail _ hp) off ⟨rfl, by
          rw [List.range_succ, List.map_append]
          exact hys.append (.cons _ _ .nil)⟩
    · intro D ys nw h3 tk3 hJ F N hoff
      obtain ⟨rfl, hys⟩ := hJ
      dsimp only at F N
      exact Made.mk ys.length F N hoff (fun p hp => hp) hys
  clear F1 N1
  intro D4 k4 y4 h4 tk4 F1 N1 hD4 hy4
  k_sweep
  k_with_none
  k_with "execs cons" => (((try k_gentoks); (try clear qk); (try clear ek); (try k_fold); (with_reducible refine wpAny_execs_cons ?_); k_fold; (try dsimp only)))
  k_with "my lca_one LLw6" => (((with_unfolding_all refine' AssignLc_at ?kF ?k0 ?k1 ?k2 ?k3 ?k4 ?k5 ?k6 ?k7 ?_ ?k8; (case kF => assumption); (case k0 => rfl); (case k1 => rfl); (case k2 => rfl); (case k3 => decide); (case k4 => rfl); (case k5 => decide); (case k6 => rfl); (case k7 => rfl); (case k8 => exact fun _ => rfl))))
  k_with "exec Assign cons ListComp" => ((refine stopped_of ?_))
  k_with "eval ListComp" => ((refine stopped_of ?_))
  k_with "pyIter ref" => ((refine stopped_of ?_))
  k_with "LcEnd" => ((refine stopped_of ?_))
  k_with "call ref" => (((with_reducible show wpAny _ _ (call (Value.ref 82) _) _ _ _); k_dflt (refine' filemode_use ?k1 ?k2 ?k3 ?k4 ?k5 ?kK ?kd ?ku ?_; (case k1 => k_asm); (case k2 => k_asm); (case k3 => k_asm); (case k4 => k_asm); (case k5 => k_asm); (case kK => exact rfl); (case kd => ktr_room); (case ku => ktr_units)); intro _ _ _ _ _))
  obtain ⟨md, hmd⟩ : ∃ md, md = (List.range 8).map (turnF bt (rsOf cc rr)) := ⟨_, rfl⟩
  rw [← hmd] at hy4
  have lmd : md.length = 8 := by rw [hmd]; rfl
  with_reducible refine cut_made (Str.ofString "rows") (fun vs' => StrsAre vs' (md.map fun m => S (fmChars ((kd : Int) * 4096 + m)))) F1 N1 ?_ ?_
  · k_steps
    refine Stopped.mk ?_
    walk_at "my lca_one LLw6"
    k_steps
    refine Stopped.mk ?_
    rename Fr _ _ _ _ => F2
    rename News _ _ _ _ => N2
    refine lcList (vs := y4) (c := k4) rfl F2 N2 (.head _) ?_
    intro I hI fp wr Md St XS F3 N3
    refine LcAt.go (fun i ys nw => _ = nw ∧ StrsAre ys ((md.take i).map fun m => S (fmChars ((kd : Int) * 4096 + m)))) (by rw [sizeLine_eq, hy4.length, lmd]; simp) XS F3 N3 (⟨rfl, .nil⟩) ?_ ?_
    · intro i v ys news₁ own C oC D m₂ h tk E' hi9 hP hJ O off offO hCD hC F N
      k_fold
      obtain ⟨rfl, hys⟩ := hJ
      obtain ⟨mv, tv, rfl, hmv⟩ := IntsAre.at hy4 i v hP
      refine asg_name F N hC (offC off offO hCD) rfl rfl ?_
      clear F N
      intro h' tk' oC' m₃ F hC' hx1 N
      try k_unfold
      dsimp only [LcBody]
      k_sweep
      k_steps
      refine Stopped.mk ?_
      exact LcEnd.mk _ (by k_asm) (by k_asm) hC' (fun p hp => hp) off ⟨rfl, by rw [map_take_snoc hmv]; exact StrsAre.append' hys (.cons _ _ .nil)⟩
    · intro D ys nw h3 tk3 hJ F N hoff
      obtain ⟨rfl, hys⟩ := hJ
      dsimp only at F N
      rw [List.take_of_length_le (by rw [hy4.length]; exact Nat.le_refl _)] at hys
      exact Made.mk ys.length F N hoff (fun p hp => hp) hys
  clear F1 N1
  intro D5 k5 y5 h5 tk5 F1 N1 hD5 hy5
  k_sweep
  k_with_none
  k_with "execs cons" => (((try k_gentoks); (try clear qk); (try clear ek); (try k_fold); (with_reducible refine wpAny_execs_cons ?_); k_fold; (try dsimp only)))
  k_with "eval ListComp" => ((refine stopped_of ?_))
  k_with "pyIter ref" => ((refine stopped_of ?_))
  k_with "LcEnd" => ((refine stopped_of ?_))
  k_with "compareOp NotEq ref ref" => ((refine stopped_of ?_))
  k_with "call ref" => (((with_reducible show wpAny _ _ (call (Value.ref 89) _) _ _ _); refine stopped_of ?_))
  k_with "call ref" => (((with_reducible show wpAny _ _ (call (Value.ref 42) _) _ _ _); k_dflt (refine' ifmt_use ?k1 ?k2 ?k3 ?k4 ?k5 ?kK ?kd ?ku ?_; (case k1 => k_asm); (case k2 => k_asm); (case k3 => k_asm); (case k4 => k_asm); (case k5 => k_asm); (case kK => exact rfl); (case kd => ktr_room); (case ku => ktr_units)); intro _ _ _ _ _))
  k_with "call ref" => (((with_reducible show wpAny _ _ (call (Value.ref 35) _) _ _ _); k_dflt (refine' imode_use ?k1 ?k2 ?k3 ?k4 ?k5 ?kK ?kd ?ku ?_; (case k1 => k_asm); (case k2 => k_asm); (case k3 => k_asm); (case k4 => k_asm); (case k5 => k_asm); (case kK => exact rfl); (case kd => ktr_room); (case ku => ktr_units)); intro _ _ _ _ _))
  k_with "my lc_one LLw7" => (((with_unfolding_all refine' ListComp_at ?kF ?k1 ?k2 ?k3 ?k4 ?_ ?k5; (case kF => assumption); (case k1 => with_unfolding_all rfl); (case k2 => decide); (case k3 => rfl); (case k4 => decide); (case k5 => exact fun _ => rfl))))
  rename News _ _ _ _ => N1
  have hk16 : kd < 16 := by
    have : ∀ k ∈ [8, 4, 10, 2, 6, 1, 12, 3], k < 16 := by decide
    exact this kd hkd
  have hmn : ∀ (i : Nat) (v : Int), md[i]? = some v → ∃ mn : Nat, v = (mn : Int) ∧ mn < 4096 := fun i v h => by
    rw [hmd, List.getElem?_map] at h
    obtain ⟨t, ht, e⟩ := Option.map_eq_some_iff.mp h
    have ht8 : t < 8 := List.mem_range.mp (List.mem_of_getElem? ht)
    rw [turn_nat] at e
    exact ⟨_, e.symm, turn_lt hbt ht8 hcc hr1 hr2 hr3⟩
  with_reducible refine cut_same F1 N1 ?_ ?_
  · k_steps
    refine Stopped.mk ?_
    walk_at "my lc_one LLw7"
    k_steps
    refine Stopped.mk ?_
    rename Fr _ _ _ _ => F2
    rename News _ _ _ _ => N2
    refine lcList (vs := y4) (c := k4) rfl F2 N2 (.tail _ (.head _)) ?_
    intro I hI fp wr Md St XS F3 N3
    refine LcAt.go (fun i ys nw => _ = nw ∧ StrsAre ys ((md.take i).map fun m => S (fmChars ((kd : Int) * 4096 + m)))) (by rw [sizeLine_eq, hy4.length, lmd]; simp) XS F3 N3 (⟨rfl, .nil⟩) ?_ ?_
    · intro i v ys news₁ own C oC D m₂ h tk E' hi9 hP hJ O off offO hCD hC F N
      k_fold
      obtain ⟨rfl, hys⟩ := hJ
      obtain ⟨mv, tv, rfl, hmv⟩ := IntsAre.at hy4 i v hP
      obtain ⟨mn, rfl, hmn2⟩ := hmn i mv hmv
      refine asg_name F N hC (offC off offO hCD) rfl rfl ?_
      clear F N
      intro h' tk' oC' m₃ F hC' hx1 N
      try k_unfold
      dsimp only [LcBody]
      k_sweep
      k_steps
      refine Stopped.mk ?_
      rw [show ((kd : Int) * 4096 + (mn : Int)) = ((kd * 4096 + mn : Nat) : Int) from by omega]
      k_dflt (refine' signs_use ?hM ?k1 ?k2 ?k3 ?k4 ?k5 ?kK ?kd ?ku ?_; (case hM => omega); (case k1 => k_asm); (case k2 => k_asm); (case k3 => k_asm); (case k4 => k_asm); (case k5 => k_asm); (case kK => exact rfl); (case kd => ktr_room); (case ku => ktr_units))
      intro t9 h9 tk9 F9 N9
      k_steps
      refine Stopped.mk ?_
      exact LcEnd.mk _ F9 N9 hC' (fun p hp => hp) off ⟨rfl, by
        rw [map_take_snoc hmv]
        refine StrsAre.append' hys ?_
        rw [show ((kd : Int) * 4096 + (mn : Int)) = ((kd * 4096 + mn : Nat) : Int) from by omega, fm_sg hkd hmn2]
        exact .cons _ _ .nil⟩
    · intro D6 y6 nw h6 tk6 hJ F N hoff
      obtain ⟨rfl, hys⟩ := hJ
      dsimp only at F N
      rw [List.take_of_length_le (by rw [hy4.length]; exact Nat.le_refl _)] at hys
      k_sweep
      k_steps
      refine Stopped.mk ?_
      have hlay : PyData.canLayAll0 ((md.map fun m => S (fmChars ((kd : Int) * 4096 + m))).map PyData.str) = true := by
        rw [show (md.map fun m => S (fmChars ((kd : Int) * 4096 + m))) = (md.map fun m => fmChars ((kd : Int) * 4096 + m)).map S from by rw [List.map_map]; rfl]
        refine lay_strs _ fun x hx => ?_
        obtain ⟨m, hm, rfl⟩ := List.mem_map.mp hx
        obtain ⟨i, hi⟩ := List.getElem?_of_mem hm
        obtain ⟨mn, rfl, hmn2⟩ := hmn i m hi
        rw [show ((kd : Int) * 4096 + (mn : Int)) = ((kd * 4096 + mn : Nat) : Int) from by omega, fm_sg hkd hmn2, sg_row hmn2]
        exact row_small hk16
      refine ne_strs N (.tail _ (.head _)) (.head _) hy5 hys hlay (by ke_room) ?_
      k_steps
      refine Stopped.mk ?_
      walk_at "my lc_one LLw7"
      k_steps
      refine Stopped.mk ?_
      rename Fr _ _ _ _ => F4
      rename News _ _ _ _ => N4
      obtain ⟨LED, mK, m4, _, m5, N4⟩ := led_hide (a := (sh.objs.size + 1, oK')) (b := (D4, listOf y4.toArray k4)) (c := (sh.objs.size + 1, oK')) (l5 := [(D5, listOf y5.toArray k5), (D4, listOf y4.toArray k4), (D3, listOf y3.toArray k3), (sh.objs.size + 1 + 1 + 1 + 1, oR'), (sh.objs.size + 1 + 1 + 1, oC'), (sh.objs.size + 1 + 1, oB'), (sh.objs.size + 1, oK')]) N4 (.tail _ (.tail _ (.tail _ (.tail _ (.tail _ (.tail _ (.tail _ (.head _)))))))) (.tail _ (.tail _ (.head _))) (.tail _ (.tail _ (.tail _ (.tail _ (.tail _ (.tail _ (.tail _ (.head _)))))))) (fun p hp => .tail _ hp)
      obtain ⟨J2, eJ2⟩ : ∃ J2, J2 = RowsJ LED (fun i => (md.take i).map fun m => [(kd : Int) * 4096, m]) := ⟨_, rfl⟩
      refine lcList (vs := y4) (c := k4) rfl F4 N4 m4 ?_
      intro I2 hI2 fp2 wr2 Md2 St2 XS2 F5 N5
      refine LcAt.go (J2) (by rw [sizeLine_eq, hy4.length, lmd]; simp) XS2 F5 N5 (by rw [eJ2]; exact ⟨[], rfl, rfl, fun i v r h => by simp at h⟩) ?_ ?_
      · intro i v ys news₁ own C oC D m₂ h tk E' hi9 hP hJ O off offO hCD hC F N
        k_fold
        rw [eJ2] at hJ
        obtain ⟨nx, rfl, hR⟩ := hJ
        obtain ⟨mv, tv, rfl, hmv⟩ := IntsAre.at hy4 i v hP
        obtain ⟨mn, rfl, hmn2⟩ := hmn i mv hmv
        refine asg_name F N hC (offC off offO hCD) rfl rfl ?_
        clear F N
        intro h' tk' oQ m₃ F hC' hx1 N
        try k_unfold
        have N6 : News sh sh.objs.size h' ((sh.objs.size + 1, oK') :: (C, oQ) :: (D, LCg.lst ys) :: ((nx ++ LED) ++ own)) := fun p hp => N p (by
          revert p; exact (all_cons (.tail _ (.tail _ (List.mem_append_left _ (List.mem_append_right _ mK)))) (fun p hp => (hp))))
        clear N
        dsimp only [LcBody]
        k_sweep
        k_steps
        refine Stopped.mk ?_
        rename Fr _ _ _ _ => F8
        rename News _ _ _ _ => N8
        rename_i tA9 _ _ _ tB9 _ _ l8 _ ll8
        have hlt := kst_ltOf ll8.2.2.2
        refine LcEnd.mk ((l8, listOf #[Value.int (Builtin.bitAnd (↑kd * 4096 + ↑mn) 61440) tA9, Value.int (Builtin.bitAnd (↑kd * 4096 + ↑mn) 4095) tB9] 0) :: (nx ++ LED)) F8 N8 hC' (fun p hp => ?_) (fun p hp => ?_) (eJ2.symm ▸ ⟨_ :: nx, by rw [List.cons_append], ?_⟩)
        · revert p; exact (all_cons (.tail _ (.tail _ (.head _))) (all_cons (.tail _ (.tail _ (.tail _ (.head _)))) (all_cons (.head _) (fun p hp => (.tail _ (.tail _ (.tail _ (.tail _ hp))))))))
        · revert p; exact (all_cons (by
              refine ⟨fun hw => ?_, Nat.ne_of_gt ll8.2.1, Nat.ne_of_gt ll8.2.2.1⟩
              obtain ⟨o, ho⟩ := O.has _ hw
              exact Nat.lt_irrefl _ (hlt _ (List.mem_append_right _ ho))) (fun p hp => (off p hp)))
        · rw [map_take_snoc hmv]
          refine RowsAt.snoc (us := [_, _]) hR ?_
          have e1 : Builtin.bitAnd ((kd : Int) * 4096 + (mn : Int)) 61440 = (kd : Int) * 4096 := by
            have := bitAnd_nat (kd * 4096 + mn) 61440
            rw [and_high hk16 hmn2] at this
            rw [show ((kd : Int) * 4096 + (mn : Int)) = ((kd * 4096 + mn : Nat) : Int) from by omega]
            rw [show (61440 : Int) = ((61440 : Nat) : Int) from rfl, this]; omega
          have e2 : Builtin.bitAnd ((kd : Int) * 4096 + (mn : Int)) 4095 = (mn : Int) := by
            have := bitAnd_nat (kd * 4096 + mn) 4095
            rw [and_mode hmn2] at this
            rw [show ((kd : Int) * 4096 + (mn : Int)) = ((kd * 4096 + mn : Nat) : Int) from by omega]
            rw [show (4095 : Int) = ((4095 : Nat) : Int) from rfl, this]
          rw [e1, e2]
          exact .cons _ _ (.cons _ _ .nil)
      · intro D7 y7 nw h7 tk7 hJ F N hoff
        rw [eJ2] at hJ
        clear eJ2
        obtain ⟨nx, rfl, hR⟩ := hJ
        dsimp only at F N
        have N9 : News sh sh.objs.size h7 ((D4, listOf y4.toArray k4) :: (D7, LCg.lst y7) :: (sh.objs.size + 1, oK') :: (nx ++ LED)) := fun p hp => N p (by
          revert p; exact (all_cons (.tail _ (List.mem_append_right _ m4)) (all_cons (.head _) (all_cons (.tail _ (List.mem_append_right _ mK)) (fun p hp => (.tail _ hp))))))
        clear N
        k_sweep
        k_steps
        refine Stopped.mk ?_
        walk_at "my lc_one LLw7"
        k_steps
        refine Stopped.mk ?_
        rename Fr _ _ _ _ => F11
        rename News _ _ _ _ => N11
        obtain ⟨LED2, mK2, m42, m72, m52, N11⟩ := led_hide (a := (sh.objs.size + 1, oK')) (b := (D4, listOf y4.toArray k4)) (c := (D7, LCg.lst y7)) (l5 := nx ++ LED) N11 (.tail _ (.tail _ (.head _))) (.head _) (.tail _ (.head _)) (fun p hp => .tail _ (.tail _ (.tail _ hp)))
        obtain ⟨J3, eJ3⟩ : ∃ J3, J3 = RowsJ LED2 (fun i => (md.take i).map fun m => [(kd : Int) * 4096, m]) := ⟨_, rfl⟩
        refine lcList (vs := y4) (c := k4) rfl F11 N11 m42 ?_
        intro I3 hI3 fp3 wr3 Md3 St3 XS3 F12 N12
        refine LcAt.go (J3) (by rw [sizeLine_eq, hy4.length, lmd]; simp) XS3 F12 N12 (by rw [eJ3]; exact ⟨[], rfl, rfl, fun i v r h => by simp at h⟩) ?_ ?_
        · intro i v ys news₁ own C oC D m₂ h tk E' hi9 hP hJ O off offO hCD hC F N
          k_fold
          rw [eJ3] at hJ
          obtain ⟨nz, rfl, hZ⟩ := hJ
          obtain ⟨mv, tv, rfl, hmv⟩ := IntsAre.at hy4 i v hP
          obtain ⟨mn, rfl, hmn2⟩ := hmn i mv hmv
          refine asg_name F N hC (offC off offO hCD) rfl rfl ?_
          clear F N
          intro h' tk' oQ m₃ F hC' hx1 N
          try k_unfold
          have N6 : News sh sh.objs.size h' ((sh.objs.size + 1, oK') :: (C, oQ) :: (D, LCg.lst ys) :: ((nz ++ LED2) ++ own)) := fun p hp => N p (by
            revert p; exact (all_cons (.tail _ (.tail _ (List.mem_append_left _ (List.mem_append_right _ mK2)))) (fun p hp => (hp))))
          clear N
          dsimp only [LcBody]
          k_sweep
          k_steps
          refine Stopped.mk ?_
          rename Fr _ _ _ _ => F8
          rename News _ _ _ _ => N8
          rename_i l8 _ ll8
          have hlt := kst_ltOf ll8.2.2.2
          refine LcEnd.mk ((l8, listOf #[Value.int (↑kd * 4096) (tk' + 1), Value.int (↑mn) tv] 0) :: (nz ++ LED2)) F8 N8 hC' (fun p hp => ?_) (fun p hp => ?_) (eJ3.symm ▸ ⟨_ :: nz, by rw [List.cons_append], ?_⟩)
          · revert p; exact (all_cons (.tail _ (.tail _ (.head _))) (all_cons (.tail _ (.tail _ (.tail _ (.head _)))) (all_cons (.head _) (fun p hp => (.tail _ (.tail _ (.tail _ (.tail _ hp))))))))
          · revert p; exact (all_cons (by
                refine ⟨fun hw => ?_, Nat.ne_of_gt ll8.2.1, Nat.ne_of_gt ll8.2.2.1⟩
                obtain ⟨o, ho⟩ := O.has _ hw
                exact Nat.lt_irrefl _ (hlt _ (List.mem_append_right _ ho))) (fun p hp => (off p hp)))
          · rw [map_take_snoc hmv]
            exact RowsAt.snoc (us := [_, _]) hZ (.cons _ _ (.cons _ _ .nil))
        · intro D8 y8 nw h8 tk8 hJ F N hoff8
          rw [eJ3] at hJ
          obtain ⟨nz, rfl, hZ⟩ := hJ
          dsimp only at F N
          rw [List.take_of_length_le (by rw [hy4.length]; exact Nat.le_refl _)] at hR hZ
          refine ne_rows N (.tail _ (List.mem_append_right _ m72)) (.head _) (hR.mono fun p hp => .tail _ (List.mem_append_right _ (m52 p (List.mem_append_left _ hp)))) (hZ.mono fun p hp => .tail _ (List.mem_append_left _ hp)) (by ke_room) ?_
          have N13 : News sh sh.objs.size h8 [(D5, listOf y5.toArray k5), (D4, listOf y4.toArray k4), (D3, listOf y3.toArray k3), (sh.objs.size + 1 + 1 + 1 + 1, oR'), (sh.objs.size + 1 + 1 + 1, oC'), (sh.objs.size + 1 + 1, oB'), (sh.objs.size + 1, oK')] := fun p hp => N p (.tail _ (List.mem_append_right _ (m52 p (List.mem_append_right _ (m5 p hp)))))
          clear N
          k_sweep
          k_steps
          exact Same.mk F N13
  clear F1 N1
  intro h5 tk5 F1 N1
  k_sweep
  k_with_none
  k_with "execs cons" => (((try k_gentoks); (try clear qk); (try clear ek); (try k_fold); (with_reducible refine wpAny_execs_cons ?_); k_fold; (try dsimp only)))
  k_with "call ref" => (((with_reducible show wpAny _ _ (call (Value.ref 94) _) _ _ _); refine stopped_of ?_))
  k_with "call ref" => (((with_reducible show wpAny _ _ (call (Value.ref 104) _) _ _ _); refine stopped_of ?_))
  k_with "exec For Name Call cons nil" => (((with_unfolding_all refine' For_at ?kF ?_ ?k1 ?k2; (case kF => assumption); (case k1 => exact fun _ => rfl); (case k2 => passes_own); k_whole)))
  k_with "exec For Name Name cons nil" => (((with_unfolding_all refine' For_at ?kF ?_ ?k1 ?k2; (case kF => assumption); (case k1 => exact fun _ => rfl); (case k2 => passes_own); k_whole)))
  k_with "pyIter ref" => ((refine stopped_of ?_))
  k_with "TurnPost" => ((refine stopped_of ?_))
  k_with "Lays" => ((refine stopped_of ?_))
  k_with "subscriptTail Name Name ref int" => ((refine stopped_of ?_))
  k_with "subscriptTail Name BinOp ref int" => ((refine stopped_of ?_))
  k_with "binaryOp Pow int int" => (first | (with_reducible refine pow_nat (by omega) ?_; intro _) | (refine stopped_of ?_))
  k_with "binaryOp FloorDiv int int" => (first | (with_reducible refine fdiv_3 ?_; intro _) | (with_reducible refine fdiv_pow (by omega) ?_; intro _))
  k_with "binaryOp Mod int int" => (first | (with_reducible refine fmod_2 ?_; intro _) | (with_reducible refine fmod_3 ?_; intro _))
  k_with "execs cons" => (((with_reducible show wpAny _ _ (execs (Stmt.Assign [Expr.Name _ _] _ _ :: []) _) _ _ _); (with_reducible refine wpAny_execs_cons ?_); (try dsimp only)))
  have hy4 : IntsAre y4 ((List.range 8).map fun t => ((turnN bt (rsOf cc rr) t : Nat) : Int)) := by
    have := hy4
    rw [hmd, show turnF bt (rsOf cc rr) = fun t => ((turnN bt (rsOf cc rr) t : Nat) : Int) from funext (turn_nat bt (rsOf cc rr))] at this
    exact this
  have hy5 : StrsAre y5 ((List.range 8).map fun t => S (rowM (kindCh kd) (turnN bt (rsOf cc rr) t))) := by
    have e : md.map (fun m => S (fmChars ((kd : Int) * 4096 + m))) = (List.range 8).map fun t => S (rowM (kindCh kd) (turnN bt (rsOf cc rr) t)) := by
      rw [hmd, List.map_map]
      refine List.map_congr_left fun t ht => ?_
      have ht8 : t < 8 := List.mem_range.mp ht
      have hb := turn_lt hbt ht8 hcc hr1 hr2 hr3
      show S (fmChars ((kd : Int) * 4096 + turnF bt (rsOf cc rr) t)) = _
      rw [turn_nat, show ((kd : Int) * 4096 + ((turnN bt (rsOf cc rr) t : Nat) : Int)) = ((kd * 4096 + turnN bt (rsOf cc rr) t : Nat) : Int) from by omega, fm_sg hkd hb, sg_row hb]
    rw [← e]; exact hy5
  have hy3 : IntsAre y3 ((List.range 3).map fun j => (((rsOf cc rr).getD j 0 : Nat) : Int)) := by
    have e : (List.range 3).map (fun j => (((rsOf cc rr).getD j 0 : Nat) : Int)) = [6 - 3 * (cc : Int), 11 - (cc : Int), (rr : Int)] := by
      show [((6 - 3 * cc : Nat) : Int), ((11 - cc : Nat) : Int), ((rr : Nat) : Int)] = _
      rw [show ((6 - 3 * cc : Nat) : Int) = 6 - 3 * (cc : Int) from by omega, show ((11 - cc : Nat) : Int) = 11 - (cc : Int) from by omega]
    rw [e]; exact hy3
  clear hmn hmd lmd
  refine cut_lay (fun u : Str → Option Value => fun z => if ordSt.contains z = true then u z else lawM l D1 D2 D4 D5 z) (news := [(D5, listOf y5.toArray k5)]) F1 (fun p hp => N1 p (by rw [List.mem_singleton.mp hp]; exact .head _)) ?_ ?_
  · k_steps
    refine Stopped.mk ?_
    rename Fr _ _ _ _ => F2
    rename News _ _ _ _ => N2
    rename_i l9 _ ll9
    k_dflt (refine' (orders_all 3) _ _ _ _ _ _ _ _ _ _ _ _ _ _ _ _ _ _ _ _ _ _ _ _ _ _ l9 [.int 0 tk5, .int 1 (tk5 + 1), .int 2 (tk5 + 1 + 1)] 0 [0, 1, 2] ?a1 ?a2 ?a3 ?a4 ?k1 ?k2 ?k3 ?k4 ?k5 ?kK ?kd ?ku ?_; (case k4 => exact N2); (case a1 => decide); (case a2 => decide); (case a3 => exact .head _); (case a4 => exact .cons _ _ (.cons _ _ (.cons _ _ .nil))); (case k1 => k_asm); (case k2 => exact F2); (case k3 => k_asm); (case k5 => k_asm); (case kK => exact rfl); (case kd => ktr_room); (case ku => ktr_units))
    clear F2 N2
    intro R kR us nwO h6 tk6 F N hA6 hR6
    k_steps
    refine Stopped.mk ?_
    rename Fr _ _ _ _ => F7
    rename News _ _ _ _ => N7
    have N8 : News sh sh.objs.size _ ((D5, listOf y5.toArray k5) :: (D4, listOf y4.toArray k4) :: (D3, listOf y3.toArray k3) :: (sh.objs.size + 1 + 1 + 1 + 1, oR') :: (R, listOf us.toArray kR) :: nwO) := fun p hp => N7 p (by
      revert p; exact (all_cons (.tail _ (List.mem_append_right _ (.tail _ (.head _)))) (all_cons (.tail _ (List.mem_append_right _ (.tail _ (.tail _ (.head _))))) (all_cons (.tail _ (List.mem_append_right _ (.tail _ (.tail _ (.tail _ (.head _)))))) (all_cons (.tail _ (List.mem_append_right _ (.tail _ (.tail _ (.tail _ (.tail _ (.head _))))))) (all_cons (.head _) (fun p hp => (.tail _ (List.mem_append_left _ hp)))))))))
    clear N7
    refine forList (vs := us) (c := kR) rfl F7 N8 (.tail _ (.tail _ (.tail _ (.tail _ (.head _))))) ?_
    intro I hI fp wr Md St XS F9 N9
    let J1 := OrdJ ((D5, listOf y5.toArray k5) :: (D4, listOf y4.toArray k4) :: (D3, listOf y3.toArray k3) :: (sh.objs.size + 1 + 1 + 1 + 1, oR') :: (R, listOf us.toArray kR) :: nwO) (lawM l D1 D2 D4 D5)
    refine ForAt.go (J1) XS F9 N9 (.mk ⟨lawM l D1 D2 D4 D5, by funext z; exact (ite_self _).symm⟩) ?_ ?_
    · intro i v m₁ news₁ h₁ tk₁ own hi hP hJ9 hoff O F N
      k_fold
      obtain ⟨rfl, u, rfl⟩ := hJ9
      obtain ⟨r, hr⟩ : ∃ r, (ordersF 3 [0, 1, 2])[i]? = some r := by
        have := hR6.1
        exact ⟨_, List.getElem?_eq_getElem (by omega)⟩
      obtain ⟨a3, us3, c3, rfl, hm3, hi3⟩ := hR6.2 i v r hP hr
      have hro := List.mem_of_getElem? hr
      have N10 : News sh sh.objs.size h₁ ((D5, listOf y5.toArray k5) :: (D4, listOf y4.toArray k4) :: (D3, listOf y3.toArray k3) :: (sh.objs.size + 1 + 1 + 1 + 1, oR') :: (a3, listOf us3.toArray c3) :: (R, listOf us.toArray kR) :: (nwO ++ own)) := fun p hp => N p (by
        revert p; exact (all_cons (.head _) (all_cons (.tail _ (.head _)) (all_cons (.tail _ (.tail _ (.head _))) (all_cons (.tail _ (.tail _ (.tail _ (.head _)))) (all_cons (.tail _ (.tail _ (.tail _ (.tail _ (.tail _ (List.mem_append_left _ hm3)))))) (fun p hp => (.tail _ (.tail _ (.tail _ (.tail _ hp)))))))))))
      clear N
      unfold ordSt lawM at F
      k_sweep
      k_steps
      refine Stopped.mk ?_
      rename Fr _ _ _ _ => F11
      rename News _ _ _ _ => N11
      rename_i tk9 _ _ Dt _ ll9 _ _ _ _ _ _ h9
      obtain ⟨u2, hu2⟩ : ∃ u2, (fun y => if y = Str.ofString "here" then some (Value.int 0 tk9) else if y = Str.ofString "told" then some (Value.ref Dt) else if y = Str.ofString "due" then some (Value.int 6 (tk9 + 1)) else if y = Str.ofString "order" then some (Value.ref a3) else if [Str.ofString "order", Str.ofString "here", Str.ofString "told", Str.ofString "due", Str.ofString "j"].contains y = true then u y else lawM l D1 D2 D4 D5 y) = stM u2 (.int ((hereF r 0 : Nat) : Int) tk9) (.ref Dt) (.int 6 (tk9 + 1)) (lawM l D1 D2 D4 D5) := ord_map (by rw [if_pos rfl]; rfl) (by rw [if_neg (by decide), if_pos rfl]) (by rw [if_neg (by decide), if_neg (by decide), if_pos rfl]) (fun z hz => by
        obtain ⟨z1, z2, z3, z4, z5⟩ := ord_out hz
        unfold ordSt at hz
        rw [if_neg z2, if_neg z3, if_neg z4, if_neg z1, hz]; rfl)
      have F12 := fr_eq F11 hu2
      have N12 : News sh sh.objs.size _ ((Dt, listOf #[] 0) :: (D5, listOf y5.toArray k5) :: (D4, listOf y4.toArray k4) :: (D3, listOf y3.toArray k3) :: (sh.objs.size + 1 + 1 + 1 + 1, oR') :: (a3, listOf us3.toArray c3) :: (R, listOf us.toArray kR) :: (nwO ++ own)) := News.tail' N11
      clear F11 N11 hu2
      refine forList (vs := us3) (c := c3) rfl F12 N12 (.tail _ (.tail _ (.tail _ (.tail _ (.tail _ (.head _)))))) ?_
      intro I2 hI2 fp2 wr2 Md2 St2 XS2 F13 N13
      have hu3 : us3.length = 3 := by rw [hi3.length]; exact order_len hro
      let J2 := TurnJ ((D5, listOf y5.toArray k5) :: (D4, listOf y4.toArray k4) :: (D3, listOf y3.toArray k3) :: (sh.objs.size + 1 + 1 + 1 + 1, oR') :: (a3, listOf us3.toArray c3) :: (R, listOf us.toArray kR) :: (nwO ++ own)) Dt (lawM l D1 D2 D4 D5) r
      refine ForAt.go (J2) XS2 F13 N13 (⟨[], [], u2, tk9, tk9 + 1, 6, rfl, .nil, rfl, by decide, rfl⟩) ?_ ?_
      · intro j v m₂ news₂ h₂ tk₂ own2 hj hP2 hJ9 hoff2 O2 F N
        k_fold
        obtain ⟨tvs, ns, u3, t1, t2, du, rfl, hts, hnl, hns, rfl⟩ := hJ9
        rw [hu3] at hj
        obtain ⟨jn, hjr, hj3, g1, g2, g3, g4⟩ := order_facts hro hj
        obtain ⟨tv, rfl⟩ : ∃ tv, v = .int (jn : Int) tv := by
          obtain ⟨x, tv, rfl, hx⟩ := IntsAre.at hi3 j v hP2
          rw [hjr] at hx
          exact ⟨tv, by rw [Option.some.inj hx]⟩
        have hDw2 : ∀ p ∈ own2, p.1 ≠ Dt := fun p hp e => by
          rcases O2.ap p hp with h | h
          · exact hoff2 _ (.head _) (by rw [← e]; exact h)
          · rw [List.mem_singleton.mp h] at e
            exact Nat.ne_of_lt ll9.2.2.2.2.1 e
        have hDall : ∀ p ∈ ((D5, listOf y5.toArray k5) :: (D4, listOf y4.toArray k4) :: (D3, listOf y3.toArray k3) :: (sh.objs.size + 1 + 1 + 1 + 1, oR') :: (a3, listOf us3.toArray c3) :: (R, listOf us.toArray kR) :: (nwO ++ own)) ++ own2, p.1 ≠ Dt := fun p hp => by
          rcases List.mem_append.mp hp with hp | hp
          · exact Nat.ne_of_lt (lt_of6 ll9 p hp)
          · exact hDw2 p hp
        unfold stM ordSt lawM at F
        k_sweep
        k_steps
        have hr12 : (rsOf cc rr).getD jn 0 < 12 := rs_lt hcc hr1 hj3
        have hturn := turn_step (bt := bt) g1 hj3 g2 hcc hr1 hr2 hr3
        obtain ⟨c0, d0, e1, e2, e3, e4⟩ := step_all (K := kindCh kd) (m := turnN bt (rsOf cc rr) (hereF r j)) hr12
        rw [← hturn] at e1 e2 e3
        generalize hereF r j = hn at *
        refine Stopped.mk ?_
        rename Fr _ _ _ _ => Fa
        rename News _ _ _ _ => Na
        refine item_rows (n := 8) Na (.tail _ (.head _)) hy5 g1 (by decide) ?_
        intro ta
        k_steps
        refine Stopped.mk ?_
        rw [show ((hn : Int) + ((2 ^ jn : Nat) : Int)) = ((hn + 2 ^ jn : Nat) : Int) from (Int.natCast_add _ _).symm]
        have g5 : hn + 2 ^ jn < 8 := by rw [← g3]; exact g4
        refine item_rows (n := 8) Na (.tail _ (.head _)) hy5 g5 (by decide) ?_
        intro tb
        k_steps
        refine Stopped.mk ?_
        k_dflt (refine' step_use (c := c0) (d := d0) ?a1 ?a2 ?a3 ?a4 ?a5 ?k1 ?k2 ?k3 ?k4 ?k5 ?kK ?kd ?ku ?_; (case a1 => rw [rowM_length, rowM_length]); (case a2 => rw [rowM_length]; decide); (case a3 => exact e1); (case a4 => exact e2); (case a5 => exact e3); (case k1 => k_asm); (case k2 => exact Fa); (case k3 => k_asm); (case k4 => exact Na); (case k5 => k_asm); (case kK => exact rfl); (case kd => ktr_room); (case ku => ktr_units))
        clear Fa Na
        intro tc hc tkc Fc Nc
        k_steps
        refine appendL Fc Nc hDall (by rw [hts.length]; omega) ?_
        clear Fc Nc
        intro hd Fd Nd
        k_steps
        refine Stopped.mk ?_
        rename Fr _ _ _ _ => Fe
        rename News _ _ _ _ => Ne
        refine item_nats (n := 3) Ne (.tail _ (.tail _ (.tail _ (.head _)))) hy3 hj3 (by decide) ?_
        intro te
        generalize hrj : (rsOf cc rr).getD jn 0 = rj at *
        k_steps
        · refine Stopped.mk ?_
          rename Fr _ _ _ _ => Ff
          rename News _ _ _ _ => Nf
          rename_i hin
          refine item_nats (n := 8) Nf (.tail _ (.tail _ (.tail _ (.head _)))) hy4 g1 (by decide) ?_
          intro tf
          k_steps
          refine Stopped.mk ?_
          rename Fr _ _ _ _ => Fg
          rename News _ _ _ _ => Ng
          refine item_nats (n := 3) Ng (.tail _ (.tail _ (.tail _ (.tail _ (.head _))))) hy3 hj3 (by decide) ?_
          intro tg
          rw [hrj]
          k_steps
          refine Stopped.mk ?_
          rw [show ((9 : Int) + ((rj / 3 : Nat) : Int)) = ((9 + rj / 3 : Nat) : Int) from (Int.natCast_add 9 (rj / 3)).symm]
          refine pow_nat (by omega) ?_
          intro _
          refine fdiv_pow (by omega) ?_
          intro _
          have hq : QuotIs (turnN bt (rsOf cc rr) hn / 2 ^ (9 + rj / 3)) (turnN bt (rsOf cc rr) hn) (9 + rj / 3) := rfl
          generalize turnN bt (rsOf cc rr) hn / 2 ^ (9 + rj / 3) = q at hq ⊢
          k_steps
          · refine Stopped.mk ?_
            rename Fr _ _ _ _ => Fg
            rename News _ _ _ _ => Ng
            rename_i a9 _ _ _
            have ex := exec_yes hin hq a9
            obtain ⟨u5, Fh⟩ := ord_end (a' := ((hereF r (j + 1) : Nat) : Int)) (b' := du - 1) Fg (by rw [g3]; exact (Int.natCast_add _ _).symm) rfl
            refine TurnPost.next ((Dt, listOf (tvs ++ [Value.int (cost c0 d0) tc]).toArray (j + 1)) :: (D5, listOf y5.toArray k5) :: (D4, listOf y4.toArray k4) :: (D3, listOf y3.toArray k3) :: (sh.objs.size + 1 + 1 + 1 + 1, oR') :: (a3, listOf us3.toArray c3) :: (R, listOf us.toArray kR) :: (nwO ++ own)) Fh Ng (fun p hp => .tail _ hp) (fun p hp => ?_) ⟨_, _, _, _, _, _, rfl, hts.append (.cons _ _ .nil), by simp [hnl], ?_, rfl⟩
            · revert p; exact (all_cons (hoff2 (Dt, listOf tvs.toArray j) (.head _)) (fun p hp => (hoff2 p (.tail _ hp))))
            · rw [ex] at e4
              exact sum_snoc hns e4 (by simp only [if_true, Bool.false_eq_true, if_false]; omega)
          · refine Stopped.mk ?_
            rename Fr _ _ _ _ => Fg
            rename News _ _ _ _ => Ng
            rename_i a9 _ _ _
            have ex := exec_no2 hq a9
            obtain ⟨u5, Fh⟩ := ord_end (a' := ((hereF r (j + 1) : Nat) : Int)) (b' := du - 0) Fg (by rw [g3]; exact (Int.natCast_add _ _).symm) rfl
            refine TurnPost.next ((Dt, listOf (tvs ++ [Value.int (cost c0 d0) tc]).toArray (j + 1)) :: (D5, listOf y5.toArray k5) :: (D4, listOf y4.toArray k4) :: (D3, listOf y3.toArray k3) :: (sh.objs.size + 1 + 1 + 1 + 1, oR') :: (a3, listOf us3.toArray c3) :: (R, listOf us.toArray kR) :: (nwO ++ own)) Fh Ng (fun p hp => .tail _ hp) (fun p hp => ?_) ⟨_, _, _, _, _, _, rfl, hts.append (.cons _ _ .nil), by simp [hnl], ?_, rfl⟩
            · revert p; exact (all_cons (hoff2 (Dt, listOf tvs.toArray j) (.head _)) (fun p hp => (hoff2 p (.tail _ hp))))
            · rw [ex] at e4
              exact sum_snoc hns e4 (by simp only [if_true, Bool.false_eq_true, if_false]; omega)
        · refine Stopped.mk ?_
          rename Fr _ _ _ _ => Fg
          rename News _ _ _ _ => Ng
          rename_i a9 _ _ _
          have ex := exec_no1 (m := turnN bt (rsOf cc rr) hn) a9
          obtain ⟨u5, Fh⟩ := ord_end (a' := ((hereF r (j + 1) : Nat) : Int)) (b' := du - 0) Fg (by rw [g3]; exact (Int.natCast_add _ _).symm) rfl
          refine TurnPost.next ((Dt, listOf (tvs ++ [Value.int (cost c0 d0) tc]).toArray (j + 1)) :: (D5, listOf y5.toArray k5) :: (D4, listOf y4.toArray k4) :: (D3, listOf y3.toArray k3) :: (sh.objs.size + 1 + 1 + 1 + 1, oR') :: (a3, listOf us3.toArray c3) :: (R, listOf us.toArray kR) :: (nwO ++ own)) Fh Ng (fun p hp => .tail _ hp) (fun p hp => ?_) ⟨_, _, _, _, _, _, rfl, hts.append (.cons _ _ .nil), by simp [hnl], ?_, rfl⟩
          · revert p; exact (all_cons (hoff2 (Dt, listOf tvs.toArray j) (.head _)) (fun p hp => (hoff2 p (.tail _ hp))))
          · rw [ex] at e4
            exact sum_snoc hns e4 (by simp only [if_true, Bool.false_eq_true, if_false]; omega)
      · intro h' tk m' nw F N hJ
        obtain ⟨tvs, ns, u3, t1, t2, du, rfl, hts, hnl, hns, rfl⟩ := hJ
        rw [hu3] at F N hnl hns
        obtain ⟨c1, c2, c3', ta1, ta2, ta3, rfl, rfl⟩ := three_of hts hnl
        unfold stM ordSt lawM at F
        k_sweep
        k_steps
        refine in_none_ints N (.head _) hts (by ke_room) ?_
        k_steps
        · rename_i a9
          exact absurd (show c1 + (c2 + (c3' + 0)) = du by have h9 := hns; simp only [List.sum_cons, List.sum_nil] at h9; omega) a9
        · refine Stopped.mk ?_
          rename Fr _ _ _ _ => Fz
          rename News _ _ _ _ => Nz
          refine TurnPost.next ((D5, listOf y5.toArray k5) :: (D4, listOf y4.toArray k4) :: (D3, listOf y3.toArray k3) :: (sh.objs.size + 1 + 1 + 1 + 1, oR') :: (R, listOf us.toArray kR) :: nwO) Fz Nz (fun p hp => ?_) hoff (.mk ord_base)
          revert p; exact (all_cons (.tail _ (.head _)) (all_cons (.tail _ (.tail _ (.head _))) (all_cons (.tail _ (.tail _ (.tail _ (.head _)))) (all_cons (.tail _ (.tail _ (.tail _ (.tail _ (.head _))))) (fun p hp => (.tail _ (.tail _ (.tail _ (.tail _ (.tail _ (.tail _ hp)))))))))))
    · intro h' tk m' nw F N hJ
      obtain ⟨rfl, u, rfl⟩ := hJ
      k_steps
      refine Stopped.mk ?_
      exact Lays.mk u F (fun p hp => N p (by rw [List.mem_singleton.mp hp]; exact .head _)) rfl
  · clear F1 N1
    intro u9 h6 tk6 F1 N1
    clear hy4 hy3
    unfold ordSt lawM at F1
    k_sweep
    k_with_none
    k_with "execs cons" => (((try k_gentoks); (try clear qk); (try clear ek); (try k_fold); (with_reducible refine wpAny_execs_cons ?_); k_fold; (try dsimp only)))
    k_with "subscriptTail Name Constant ref int" => ((refine stopped_of ?_))
    k_with "call ref" => (((with_reducible show wpAny _ _ (call (Value.ref 99) _) _ _ _); refine stopped_of ?_))
    k_with "call ref" => (((with_reducible show wpAny _ _ (call (Value.ref 28) _) _ _ _); refine stopped_of ?_))
    k_with "execs cons" => (((with_reducible show wpAny _ _ (execs (Stmt.If _ _ _ _ :: _) _) _ _ _); refine stopped_of ?_))
    k_with "subscriptTail Name Slice str ref" => ((first | (refine sliceS_from (s := ⟨_, _, _, _, _⟩) (by with_reducible assumption) (by with_reducible assumption) (by omega) (by omega) ?_; intro _ _ _ _ _) | (refine sliceS_cut (s := ⟨_, _, _, _, _⟩) (by with_reducible assumption) (by with_reducible assumption) (by omega) (by omega) ?_; intro _ _ _ _ _) | (refine sliceS_to (s := ⟨_, _, _, _, _⟩) (by with_reducible assumption) (by with_reducible assumption) (by omega) (by omega) ?_; intro _ _ _ _ _) | (refine sliceS_all (s := ⟨_, _, _, _, _⟩) (by with_reducible assumption) (by with_reducible assumption) (by omega) ?_; intro _ _ _ _ _)))
    have RF := row_facts (bt := bt) hkd hcc hr1 hr2 hr3
    obtain ⟨g, hg⟩ : ∃ g : Nat → List Nat, g = fun t => rowM (kindCh kd) (turnN bt (rsOf cc rr) t) := ⟨_, rfl⟩
    have hy5 : StrsAre y5 ((List.range 8).map fun t => S (g t)) := by rw [hg]; exact hy5
    replace RF : RowFacts (g 0) (g 7) := by rw [hg]; exact RF
    clear hg
    k_steps
    refine Stopped.mk ?_
    refine item_rows (h := 0) (n := 8) N1 (.head _) hy5 (by decide) (by decide) ?_
    intro t0
    k_steps
    refine Stopped.mk ?_
    rename Fr _ _ _ _ => Fa
    rename News _ _ _ _ => Na
    refine item_rows (h := 7) (n := 8) Na (.head _) hy5 (by decide) (by decide) ?_
    intro t7
    k_steps
    refine Stopped.mk ?_
    k_dflt (refine' places_use ?a1 ?a2 ?k1 ?k2 ?k3 ?k4 ?k5 ?kK ?kd ?ku ?_; (case a1 => rw [RF.lx, RF.ly]); (case a2 => rw [RF.lx]; decide); (case k1 => k_asm); (case k2 => k_asm); (case k3 => k_asm); (case k4 => k_asm); (case k5 => k_asm); (case kK => exact rfl); (case kd => ktr_room); (case ku => ktr_units))
    clear Fa Na
    intro tp hp tkp Fb Nb
    k_steps
    refine Stopped.mk ?_
    refine item_rows (h := 0) (n := 8) Nb (.head _) hy5 (by decide) (by decide) ?_
    intro t0'
    k_steps
    refine Stopped.mk ?_
    rename Fr _ _ _ _ => Fc
    rename News _ _ _ _ => Nc
    have Nd := News.tail' Nc
    obtain ⟨fz, hfz⟩ : ∃ fz, fz = sumZ (g 0) (g 7) := ⟨_, rfl⟩
    have e : (List.map (fun p => cost p.1 p.2) ((g 0).zip (g 7))).sum = fz := hfz.symm
    rw [e] at Fc
    obtain ⟨lx, ly, p1, p4, f1, f2, f3, sh, s1', s2', pre, self⟩ := RF
    rw [← hfz] at p1 p4 f1 f2 f3
    clear Nc e hfz
    with_reducible refine cut_same Fc Nd ?_ ?_
    · k_steps
      refine Stopped.mk ?_
      rename Fr _ _ _ _ => F1
      rename News _ _ _ _ => N1
      refine item_rows (h := 7) (n := 8) N1 (.head _) hy5 (by decide) (by decide) ?_
      intro t1
      k_steps
      refine Stopped.mk ?_
      (k_dflt (refine' lev_at f1 ?a1 ?a2 ?a3 ?k1 ?k2 ?k3 ?k4 ?k5 ?kK ?kd ?ku ?_; (case a1 => ((try simp only [List.length_take, List.length_drop, List.length_cons, List.length_nil]); omega)); (case a2 => ((try simp only [List.length_take, List.length_drop, List.length_cons, List.length_nil]); omega)); (case a3 => exact ⟨by omega, by omega⟩); (case k1 => k_asm); (case k2 => k_asm); (case k3 => k_asm); (case k4 => k_asm); (case k5 => k_asm); (case kK => exact rfl); (case kd => ktr_room); (case ku => ktr_units)))
      clear F1 N1
      intro t2 h1 tk1 F1 N1
      k_steps
      refine Stopped.mk ?_
      refine item_rows (h := 7) (n := 8) N1 (.head _) hy5 (by decide) (by decide) ?_
      intro t3
      k_steps
      refine Stopped.mk ?_
      (k_dflt (refine' lev_at f2 ?a1 ?a2 ?a3 ?k1 ?k2 ?k3 ?k4 ?k5 ?kK ?kd ?ku ?_; (case a1 => ((try simp only [List.length_take, List.length_drop, List.length_cons, List.length_nil]); omega)); (case a2 => ((try simp only [List.length_take, List.length_drop, List.length_cons, List.length_nil]); omega)); (case a3 => exact ⟨by omega, by omega⟩); (case k1 => k_asm); (case k2 => k_asm); (case k3 => k_asm); (case k4 => k_asm); (case k5 => k_asm); (case kK => exact rfl); (case kd => ktr_room); (case ku => ktr_units)))
      clear F1 N1
      intro t4 h2 tk2 F1 N1
      k_steps
      refine Stopped.mk ?_
      rename Fr _ _ _ _ => F2
      rename News _ _ _ _ => N2
      refine item_rows (h := 7) (n := 8) N2 (.tail _ (.tail _ (.head _))) hy5 (by decide) (by decide) ?_
      intro t5
      k_steps
      refine Stopped.mk ?_
      generalize hv : levF (g 0) (g 7) (fz - 1) = v at f3
      (k_dflt (refine' lev_at hv ?a1 ?a2 ?a3 ?k1 ?k2 ?k3 ?k4 ?k5 ?kK ?kd ?ku ?_; (case a1 => ((try simp only [List.length_take, List.length_drop, List.length_cons, List.length_nil]); omega)); (case a2 => ((try simp only [List.length_take, List.length_drop, List.length_cons, List.length_nil]); omega)); (case a3 => exact ⟨by omega, by omega⟩); (case k1 => k_asm); (case k2 => k_asm); (case k3 => k_asm); (case k4 => k_asm); (case k5 => k_asm); (case kK => exact rfl); (case kd => ktr_room); (case ku => ktr_units)))
      clear F2 N2
      intro t6 h3 tk3 F3 N3
      k_steps
      exact Same.mk F3 (fun p hp => N3 p (.tail _ (.tail _ hp)))
    · clear Fc Nd
      intro h8 tk8 F8 N8
      clear f1 f2 f3
      k_sweep
      have eC : cutEnd (g 0) (-1) = (g 0).take 9 := by unfold cutEnd; rw [lx]; rfl
      replace sh : levF (cutEnd (g 0) (-1)) ((g 0).drop (Int.toNat 1)) 99 = min 4 (sumZ (cutEnd (g 0) (-1)) ((g 0).drop (Int.toNat 1))) := by rw [eC]; exact sh
      have lC : (cutEnd (g 0) (-1)).length = 9 := by rw [eC, List.length_take, lx]; rfl
      have lD : ((g 0).drop (Int.toNat 1)).length = 9 := by rw [List.length_drop, lx]; rfl
      clear eC
      k_steps
      refine Stopped.mk ?_
      with_reducible refine cut_same F8 N8 ?_ ?_
      · k_steps
        refine Stopped.mk ?_
        (k_dflt (refine' lev_at sh ?a1 ?a2 ?a3 ?k1 ?k2 ?k3 ?k4 ?k5 ?kK ?kd ?ku ?_; (case a1 => ((try simp only [List.length_take, List.length_drop, List.length_cons, List.length_nil]); omega)); (case a2 => ((try simp only [List.length_take, List.length_drop, List.length_cons, List.length_nil]); omega)); (case a3 => exact ⟨by omega, by omega⟩); (case k1 => k_asm); (case k2 => k_asm); (case k3 => k_asm); (case k4 => k_asm); (case k5 => k_asm); (case kK => exact rfl); (case kd => ktr_room); (case ku => ktr_units)))
        intro t1 h1 tk1 F1 N1
        k_steps
        refine Stopped.mk ?_
        rename Fr _ _ _ _ => F2
        rename News _ _ _ _ => N2
        k_dflt (refine' places_use ?a1 ?a2 ?k1 ?k2 ?k3 ?k4 ?k5 ?kK ?kd ?ku ?_; (case a1 => rw [lC, lD]); (case a2 => rw [lC]; decide); (case k1 => k_asm); (case k2 => k_asm); (case k3 => k_asm); (case k4 => k_asm); (case k5 => k_asm); (case kK => exact rfl); (case kd => ktr_room); (case ku => ktr_units))
        clear F2 N2
        intro t2 h2 tk2 F3 N3
        obtain ⟨z, hz⟩ : ∃ z, z = sumZ (cutEnd (g 0) (-1)) ((g 0).drop (Int.toNat 1)) := ⟨_, rfl⟩
        have e : (List.map (fun p => cost p.1 p.2) ((cutEnd (g 0) (-1)).zip ((g 0).drop (Int.toNat 1)))).sum = z := hz.symm
        rw [e, ← hz]
        clear e hz
        k_steps
        · exact absurd (show min 4 z = if z < 4 then z else 4 by split <;> omega) (by assumption)
        · rename Fr _ _ _ _ => F9
          rename News _ _ _ _ => N9
          exact Same.mk F9 N9
      · clear F8 N8
        intro h9 tk9 F9 N9
        k_sweep
        k_steps
        refine Stopped.mk ?_
        (k_dflt (refine' star_at s1' ?a2 ?a3 ?k1 ?k2 ?k3 ?k4 ?k5 ?kK ?kd ?ku ?_; (case a2 => omega); (case a3 => exact ⟨by omega, by omega⟩); (case k1 => k_asm); (case k2 => k_asm); (case k3 => k_asm); (case k4 => k_asm); (case k5 => k_asm); (case kK => exact rfl); (case kd => ktr_room); (case ku => ktr_units)))
        clear F9 N9
        intro t1 h1 tk1 F1 N1
        k_steps
        refine Stopped.mk ?_
        (k_dflt (refine' star_at s2' ?a2 ?a3 ?k1 ?k2 ?k3 ?k4 ?k5 ?kK ?kd ?ku ?_; (case a2 => omega); (case a3 => exact ⟨by omega, by omega⟩); (case k1 => k_asm); (case k2 => k_asm); (case k3 => k_asm); (case k4 => k_asm); (case k5 => k_asm); (case kK => exact rfl); (case kd => ktr_room); (case ku => ktr_units)))
        clear F1 N1
        intro t2 h2 tk2 F2 N2
        k_steps
        refine Stopped.mk ?_
        (k_dflt (refine' lev_at pre ?a1 ?a2 ?a3 ?k1 ?k2 ?k3 ?k4 ?k5 ?kK ?kd ?ku ?_; (case a1 => ((try simp only [List.length_take, List.length_drop, List.length_cons, List.length_nil]); omega)); (case a2 => ((try simp only [List.length_take, List.length_drop, List.length_cons, List.length_nil]); omega)); (case a3 => exact ⟨by omega, by omega⟩); (case k1 => k_asm); (case k2 => k_asm); (case k3 => k_asm); (case k4 => k_asm); (case k5 => k_asm); (case kK => exact rfl); (case kd => ktr_room); (case ku => ktr_units)))
        intro t3 h3 tk3 F3 N3
        k_steps
        refine Stopped.mk ?_
        (k_dflt (refine' lev_at self ?a1 ?a2 ?a3 ?k1 ?k2 ?k3 ?k4 ?k5 ?kK ?kd ?ku ?_; (case a1 => ((try simp only [List.length_take, List.length_drop, List.length_cons, List.length_nil]); omega)); (case a2 => ((try simp only [List.length_take, List.length_drop, List.length_cons, List.length_nil]); omega)); (case a3 => exact ⟨by omega, by omega⟩); (case k1 => k_asm); (case k2 => k_asm); (case k3 => k_asm); (case k4 => k_asm); (case k5 => k_asm); (case kK => exact rfl); (case kd => ktr_room); (case ku => ktr_units)))
        intro t4 h4 tk4 F4 N4
        k_steps)
end Mine
end
end
theorem PySem.Challenge.cw_pe0142_01_holds : PySem.Challenge.rw_pe0142_01.Holds :=
  Mine.holds
