import PyProof.Rows.All
import Wide.All
import OpenK.AllK
import Wide.FinOn
import PySem.Challenge.RW_wj0018_01
open PySem PySem.W PyProof.Rows
set_option Elab.async false
set_option maxRecDepth 100000
set_option compiler.extract_closed false
namespace Mine
section
local macro_rules | `(tactic| k_head) => `(tactic| z_head)
set_option maxHeartbeats 8000000 in
open_top hd for PySem.Challenge.rw_wj0018_01
end
section
theorem both (a : PySem.Challenge.rw_wj0018_01.row.Holds) (_ : True) : PySem.Challenge.rw_wj0018_01.row.Holds := a
local macro_rules | `(tactic| o_head $_) => `(tactic| refine both ?hc ?hw)
local macro_rules | `(tactic| w_witness2) => `(tactic| trivial)
open_top hk for PySem.Challenge.rw_wj0018_01.row
end
end Mine
namespace Mine
noncomputable section

/-! text: model -/
section

/-! ## the plain function that _levenshtein_distance computes -/
noncomputable def subCost (x y : Str) : Int := if x = y then 0 else if Txt.lower x = Txt.lower y then 1 else 2
noncomputable def costN (x y : Nat) : Int := subCost ⟨#[x]⟩ ⟨#[y]⟩

noncomputable def cplG {α : Type} [DecidableEq α] : List α → List α → Nat
  | x :: xs, y :: ys => if x = y then cplG xs ys + 1 else 0
  | _, _ => 0

noncomputable def cellsG {α : Type} (cost : α → α → Int) (c : α) (A : List α) : Nat → Nat → List Int → Int → Int → Int → List Int × Int × Int
  | 0, _, row, _, res, mn => (row, res, mn)
  | n + 1, i, row, d, res, mn =>
    let res' := min (min res (row.getD i 0) + 2) (d + (match A[i]? with | some x => cost c x | none => 0))
    cellsG cost c A n (i + 1) (row.set i res') (row.getD i 0) res' (if res' < mn then res' else mn)

noncomputable def rowsG {α : Type} (cost : α → α → Int) (A B : List α) (m : Int) : Nat → Nat → List Int → Int → Int
  | 0, _, _, res => res
  | n + 1, j, row, res => match B[j]? with
    | none => res
    | some c => if (cellsG cost c A A.length 0 row (2 * j) (2 * j) 9223372036854775807).2.2 > m then m + 1
      else rowsG cost A B m n (j + 1) (cellsG cost c A A.length 0 row (2 * j) (2 * j) 9223372036854775807).1 (cellsG cost c A A.length 0 row (2 * j) (2 * j) 9223372036854775807).2.1

noncomputable def row0 (n : Nat) : List Int := (List.range n).map fun (i : Nat) => (2 : Int) + 2 * (i : Int)

noncomputable def sortedG {α : Type} (cost : α → α → Int) (A B : List α) (m : Int) : Int :=
  if ((B.length : Int) - A.length) * 2 > m then m + 1 else rowsG cost A B m B.length 0 (row0 A.length) 0

noncomputable def coreG {α : Type} (cost : α → α → Int) (A B : List α) (m : Int) : Int :=
  if A.length = 0 ∨ B.length = 0 then 2 * ((A.length : Int) + B.length)
  else if B.length < A.length then sortedG cost B A m else sortedG cost A B m

noncomputable def levG {α : Type} [DecidableEq α] (cost : α → α → Int) (A B : List α) (m : Int) : Int :=
  if A = B then 0 else
    coreG cost ((A.drop (cplG A B)).take ((A.drop (cplG A B)).length - cplG (A.drop (cplG A B)).reverse (B.drop (cplG A B)).reverse))
      ((B.drop (cplG A B)).take ((B.drop (cplG A B)).length - cplG (A.drop (cplG A B)).reverse (B.drop (cplG A B)).reverse)) m

noncomputable def lev (a b : Str) (m : Int) : Int := levG costN a.cps.toList b.cps.toList m

/-! ## texts as lists -/
theorem slice_drop {x : Str} {i : Int} (h0 : 0 ≤ i) (h1 : i ≤ x.length) : (Txt.slice x (some i) none).cps.toList = x.cps.toList.drop i.toNat := by
  rw [slice_from_eq h0 h1 rfl]
  show ((x.cps.toList.drop i.toNat).take _).toArray.toList = _
  rw [List.toList_toArray]
  apply List.take_of_length_le
  rw [List.length_drop]
  obtain ⟨d, rfl⟩ := Int.eq_ofNat_of_zero_le h0
  exact Nat.le_of_eq (Int.toNat_sub _ _).symm

theorem range_filterMap (l : List Nat) (k : Nat) : (List.range k).filterMap (fun i => l[i]?) = l.take k := by
  induction k with
  | zero => simp
  | succ k ih => rw [List.range_succ, List.filterMap_append, ih, List.take_add_one]; cases h : l[k]? <;> simp [h]

theorem neg_form {x : Str} {j : Int} (h0 : j < 0) (h1 : -j ≤ x.length) : ∃ d : Nat, j = -((d : Nat) : Int) - 1 ∧ (-j).toNat = d + 1 ∧ d + 1 ≤ x.length ∧ j + (x.length : Int) = ((x.length - (d + 1) : Nat) : Int) := by
  obtain ⟨d, e⟩ := Int.eq_ofNat_of_zero_le (a := -j - 1) (by omega)
  have ej : j = -(d : Int) - 1 := by omega
  subst ej
  exact ⟨d, rfl, by omega, by omega, by omega⟩
theorem slice_take {x : Str} {j : Int} (h0 : j < 0) (h1 : -j ≤ x.length) : (Txt.slice x none (some j)).cps.toList = x.cps.toList.take (x.cps.toList.length - (-j).toNat) := by
  obtain ⟨d, _, e1, e2, e3⟩ := neg_form h0 h1
  have hl : x.cps.toList.length = x.length := Array.length_toList
  rw [hl, e1]
  have hidx : PySem.Builtin.Str.strSliceIndices none (some j) 1 x.length = List.range (x.length - (d + 1)) := by
    unfold PySem.Builtin.Str.strSliceIndices sliceRange
    simp only [show (1 : Int) > 0 by decide, if_true, h0]
    rw [Int.min_eq_left (by rw [e3]; exact Int.ofNat_le.mpr (Nat.sub_le ..)), e3, Int.max_eq_right (Int.natCast_nonneg _)]
    have e2 : ∀ n : Nat, (if (0 : Int) < (n : Int) then ((n : Int) - 0 + 1 - 1) / 1 else 0).toNat = n := by
      intro n
      split
      · rw [Int.ediv_one]; omega
      · omega
    rw [e2]
    conv => rhs; rw [← List.map_id (List.range _)]
    apply List.map_congr_left
    intro a _
    simp
  unfold Txt.slice
  rw [hidx]
  have hlt : ((List.range (x.length - (d + 1))).length == x.length) = false := by
    rw [List.length_range]
    exact beq_eq_false_iff_ne.mpr (by omega)
  rw [hlt]
  simp only [Bool.and_false, Bool.false_eq_true, if_false]
  rw [List.toList_toArray]
  have : (fun i : Nat => x.cps[i]?) = fun i : Nat => x.cps.toList[i]? := by funext i; simp
  rw [this, range_filterMap]

theorem item_nn {x : Str} {i : Int} (h0 : 0 ≤ i) (h1 : i < x.length) : Txt.item x i = ⟨#[(x.cps.toList[i.toNat]?).getD 0]⟩ := by
  have hl : x.length = x.cps.size := rfl
  have e : seqIndex? i x.length = some i.toNat := by
    unfold seqIndex?
    simp only [if_neg (show ¬ i < 0 by omega)]
    rw [if_pos (by simp; omega)]
  unfold Txt.item Txt.charAt
  rw [e]
  simp

theorem item_neg {x : Str} {i : Int} (h0 : i < 0) (h1 : -i ≤ x.length) : Txt.item x i = ⟨#[(x.cps.toList.reverse[(-i).toNat - 1]?).getD 0]⟩ := by
  obtain ⟨d, _, e1, e2, e3⟩ := neg_form h0 h1
  have hl : x.cps.toList.length = x.length := Array.length_toList
  have e : seqIndex? i x.length = some (x.length - (d + 1)) := by
    unfold seqIndex?
    simp only [if_pos h0, e3]
    rw [if_pos (by simp; omega), Int.toNat_natCast]
  unfold Txt.item Txt.charAt
  rw [e, e1, Nat.add_sub_cancel, List.getElem?_reverse (by omega), hl, Nat.sub_sub, Nat.add_comm 1 d]
  simp

/-! ## the common start -/
section
variable {α : Type} [DecidableEq α]
theorem cpl_nil_left (B : List α) : cplG [] B = 0 := by cases B <;> rfl
theorem cpl_nil_right (A : List α) : cplG A [] = 0 := by cases A <;> rfl
theorem cpl_cons (x y : α) (A B : List α) : cplG (x :: A) (y :: B) = if x = y then cplG A B + 1 else 0 := rfl
theorem cpl_le_left : ∀ A B : List α, cplG A B ≤ A.length
  | [], B => by rw [cpl_nil_left]; exact Nat.zero_le _
  | _ :: _, [] => Nat.zero_le _
  | x :: A, y :: B => by
    rw [cpl_cons]
    split
    · have := cpl_le_left A B; simp; omega
    · exact Nat.zero_le _
theorem cpl_le_right : ∀ A B : List α, cplG A B ≤ B.length
  | [], B => by rw [cpl_nil_left]; exact Nat.zero_le _
  | _ :: _, [] => Nat.zero_le _
  | x :: A, y :: B => by
    rw [cpl_cons]
    split
    · have := cpl_le_right A B; simp; omega
    · exact Nat.zero_le _
/-- the word between the turns of the two whiles -/
noncomputable def CplAt (A B : List α) (p : Nat) : Prop := p + cplG (A.drop p) (B.drop p) = cplG A B
theorem cplAt_zero (A B : List α) : CplAt A B 0 := by simp [CplAt]
theorem cplAt_step {A B : List α} {p : Nat} (h : CplAt A B p) (ha : p < A.length) (hb : p < B.length) (e : A[p]? = B[p]?) : CplAt A B (p + 1) := by
  unfold CplAt at *
  rw [List.drop_eq_getElem_cons ha, List.drop_eq_getElem_cons hb] at h
  rw [List.getElem?_eq_getElem ha, List.getElem?_eq_getElem hb] at e
  have e' := Option.some.inj e
  rw [cpl_cons, if_pos e'] at h
  omega
theorem cplAt_ne {A B : List α} {p : Nat} (h : CplAt A B p) (ha : p < A.length) (hb : p < B.length) (e : A[p]? ≠ B[p]?) : p = cplG A B := by
  unfold CplAt at h
  rw [List.drop_eq_getElem_cons ha, List.drop_eq_getElem_cons hb] at h
  rw [List.getElem?_eq_getElem ha, List.getElem?_eq_getElem hb] at e
  rw [cpl_cons, if_neg (fun q => e (congrArg some q))] at h
  exact h
theorem cplAt_left {A B : List α} {p : Nat} (h : CplAt A B p) (ha : A.length ≤ p) : p = cplG A B := by
  unfold CplAt at h
  rw [List.drop_eq_nil_of_le ha, cpl_nil_left] at h
  exact h
theorem cplAt_right {A B : List α} {p : Nat} (h : CplAt A B p) (hb : B.length ≤ p) : p = cplG A B := by
  unfold CplAt at h
  rw [List.drop_eq_nil_of_le hb, cpl_nil_right] at h
  exact h
end
/-! ## the words of the two whiles -/
theorem item_eq_nn {a b : Str} {p : Int} (h0 : 0 ≤ p) (ha : p < a.length) (hb : p < b.length) : Txt.item a p = Txt.item b p ↔ a.cps.toList[p.toNat]? = b.cps.toList[p.toNat]? := by
  rw [item_nn h0 ha, item_nn h0 hb]
  have la : (a.length : Int) = a.cps.toList.length := by rw [Array.length_toList]; rfl
  have lb : (b.length : Int) = b.cps.toList.length := by rw [Array.length_toList]; rfl
  rw [List.getElem?_eq_getElem (by omega), List.getElem?_eq_getElem (by omega)]
  constructor
  · intro e; injection e with e; simp at e; simpa using e
  · intro e; rw [Option.some.inj e]
theorem w1_step {a b : Str} {p : Int} (h0 : 0 ≤ p) (ha : p < a.length) (hb : p < b.length) (h : CplAt a.cps.toList b.cps.toList p.toNat) (e : (Txt.item a p == Txt.item b p) = true) :
    CplAt a.cps.toList b.cps.toList (p + 1).toNat := by
  have la : (a.length : Int) = a.cps.toList.length := by rw [Array.length_toList]; rfl
  have lb : (b.length : Int) = b.cps.toList.length := by rw [Array.length_toList]; rfl
  rw [show (p + 1).toNat = p.toNat + 1 from Int.toNat_add_nat h0 1]
  exact cplAt_step h (by omega) (by omega) ((item_eq_nn h0 ha hb).mp (beq_iff_eq.mp e))
theorem w1_ne {a b : Str} {p : Int} (h0 : 0 ≤ p) (ha : p < a.length) (hb : p < b.length) (h : CplAt a.cps.toList b.cps.toList p.toNat) (e : (Txt.item a p == Txt.item b p) = false) :
    p = (cplG a.cps.toList b.cps.toList : Int) := by
  have la : (a.length : Int) = a.cps.toList.length := by rw [Array.length_toList]; rfl
  have lb : (b.length : Int) = b.cps.toList.length := by rw [Array.length_toList]; rfl
  have := cplAt_ne h (by omega) (by omega) (fun q => beq_eq_false_iff_ne.mp e ((item_eq_nn h0 ha hb).mpr q))
  omega
theorem w1_left {a b : Str} {p : Int} (h0 : 0 ≤ p) (ha : (a.length : Int) ≤ p) (h : CplAt a.cps.toList b.cps.toList p.toNat) : p = (cplG a.cps.toList b.cps.toList : Int) := by
  have la : (a.length : Int) = a.cps.toList.length := by rw [Array.length_toList]; rfl
  have := cplAt_left h (by omega)
  omega
theorem w1_right {a b : Str} {p : Int} (h0 : 0 ≤ p) (hb : (b.length : Int) ≤ p) (h : CplAt a.cps.toList b.cps.toList p.toNat) : p = (cplG a.cps.toList b.cps.toList : Int) := by
  have lb : (b.length : Int) = b.cps.toList.length := by rw [Array.length_toList]; rfl
  have := cplAt_right h (by omega)
  omega
theorem item_eq_neg {a b : Str} {p : Int} (h0 : p ≤ 0) (ha : -p < a.length) (hb : -p < b.length) : Txt.item a (p - 1) = Txt.item b (p - 1) ↔ a.cps.toList.reverse[(-p).toNat]? = b.cps.toList.reverse[(-p).toNat]? := by
  obtain ⟨d, e⟩ := Int.eq_ofNat_of_zero_le (a := -p) (by omega)
  obtain rfl : p = -(d : Int) := by omega
  have key : ∀ x : Str, -(-(d : Int)) < x.length → Txt.item x (-(d : Int) - 1) = ⟨#[(x.cps.toList.reverse[d]?).getD 0]⟩ ∧ d < x.cps.toList.reverse.length := by
    intro x hx
    have hl : x.cps.toList.reverse.length = x.length := List.length_reverse.trans Array.length_toList
    refine ⟨?_, by omega⟩
    rw [item_neg (by omega) (by omega), show (-(-(d : Int) - 1)).toNat - 1 = d by omega]
  obtain ⟨k1, l1⟩ := key a ha
  obtain ⟨k2, l2⟩ := key b hb
  rw [k1, k2, Int.neg_neg, Int.toNat_natCast, List.getElem?_eq_getElem l1, List.getElem?_eq_getElem l2]
  constructor
  · intro e; injection e with e; simp at e; simpa using e
  · intro e; rw [Option.some.inj e]
theorem w2_step {a b : Str} {p : Int} (h0 : p ≤ 0) (ha : -p < a.length) (hb : -p < b.length) (h : CplAt a.cps.toList.reverse b.cps.toList.reverse (-p).toNat) (e : (Txt.item a (p - 1) == Txt.item b (p - 1)) = true) :
    CplAt a.cps.toList.reverse b.cps.toList.reverse (-(p - 1)).toNat := by
  have la : (a.length : Int) = a.cps.toList.reverse.length := by rw [List.length_reverse, Array.length_toList]; rfl
  have lb : (b.length : Int) = b.cps.toList.reverse.length := by rw [List.length_reverse, Array.length_toList]; rfl
  rw [show (-(p - 1)) = -p + 1 by omega, show (-p + 1).toNat = (-p).toNat + 1 from Int.toNat_add_nat (by omega) 1]
  exact cplAt_step h (by omega) (by omega) ((item_eq_neg h0 ha hb).mp (beq_iff_eq.mp e))
theorem w2_ne {a b : Str} {p : Int} (h0 : p ≤ 0) (ha : -p < a.length) (hb : -p < b.length) (h : CplAt a.cps.toList.reverse b.cps.toList.reverse (-p).toNat) (e : (Txt.item a (p - 1) == Txt.item b (p - 1)) = false) :
    p = -(cplG a.cps.toList.reverse b.cps.toList.reverse : Int) := by
  have la : (a.length : Int) = a.cps.toList.reverse.length := by rw [List.length_reverse, Array.length_toList]; rfl
  have lb : (b.length : Int) = b.cps.toList.reverse.length := by rw [List.length_reverse, Array.length_toList]; rfl
  have := cplAt_ne h (by omega) (by omega) (fun q => beq_eq_false_iff_ne.mp e ((item_eq_neg h0 ha hb).mpr q))
  omega
theorem w2_left {a b : Str} {p : Int} (h0 : p ≤ 0) (ha : (a.length : Int) ≤ -p) (h : CplAt a.cps.toList.reverse b.cps.toList.reverse (-p).toNat) : p = -(cplG a.cps.toList.reverse b.cps.toList.reverse : Int) := by
  have la : (a.length : Int) = a.cps.toList.reverse.length := by rw [List.length_reverse, Array.length_toList]; rfl
  have := cplAt_left h (by omega)
  omega
theorem w2_right {a b : Str} {p : Int} (h0 : p ≤ 0) (hb : (b.length : Int) ≤ -p) (h : CplAt a.cps.toList.reverse b.cps.toList.reverse (-p).toNat) : p = -(cplG a.cps.toList.reverse b.cps.toList.reverse : Int) := by
  have lb : (b.length : Int) = b.cps.toList.reverse.length := by rw [List.length_reverse, Array.length_toList]; rfl
  have := cplAt_right h (by omega)
  omega
theorem cpl_len_left (a b : Str) : (cplG a.cps.toList b.cps.toList : Int) ≤ a.length := by
  have := cpl_le_left a.cps.toList b.cps.toList
  rw [Array.length_toList] at this
  show _ ≤ (a.cps.size : Int)
  omega
theorem cpl_len_right (a b : Str) : (cplG a.cps.toList b.cps.toList : Int) ≤ b.length := by
  have := cpl_le_right a.cps.toList b.cps.toList
  rw [Array.length_toList] at this
  show _ ≤ (b.cps.size : Int)
  omega
theorem len_toList (a : Str) : (a.length : Int) = a.cps.toList.length := by rw [Array.length_toList]; rfl
theorem slice_none (x : Str) : Txt.slice x none none = x := by
  unfold Txt.slice
  rw [if_pos]
  unfold PySem.Builtin.Str.strSliceIndices sliceRange
  simp only [show (1 : Int) > 0 by decide, if_true, List.length_map, List.length_range]
  have : (if (0 : Int) < (x.length : Int) then ((x.length : Int) - 0 + 1 - 1) / 1 else 0).toNat = x.length := by
    split
    · rw [Int.ediv_one]; omega
    · omega
  rw [this]; simp
theorem slice_take_len {x : Str} {j : Int} (h0 : j < 0) (h1 : -j ≤ x.length) : ((Txt.slice x none (some j)).length : Int) = x.length + j := by
  obtain ⟨d, _, e1, e2, e3⟩ := neg_form h0 h1
  rw [len_toList, slice_take h0 h1, List.length_take, e1, Int.add_comm, e3, Nat.min_eq_left (Nat.sub_le ..)]
  rfl

theorem lev_same {a b : Str} {k : Int} (h : (a == b) = true) : lev a b k = 0 := by
  unfold lev levG
  rw [if_pos (by rw [beq_iff_eq.mp h])]
theorem lev_core {a b a1 b1 a2 b2 : Str} {k : Int} (hne : (a == b) = false) (eA : a1.cps.toList = a.cps.toList.drop (cplG a.cps.toList b.cps.toList)) (eB : b1.cps.toList = b.cps.toList.drop (cplG a.cps.toList b.cps.toList))
    (ea : a2.cps.toList = a1.cps.toList.take (a1.cps.toList.length - cplG a1.cps.toList.reverse b1.cps.toList.reverse)) (eb : b2.cps.toList = b1.cps.toList.take (b1.cps.toList.length - cplG a1.cps.toList.reverse b1.cps.toList.reverse)) :
    lev a b k = coreG costN a2.cps.toList b2.cps.toList k := by
  unfold lev levG
  rw [if_neg (by
    intro e
    have : a = b := by
      cases a; cases b
      simp only [Str.mk.injEq]
      exact Array.toList_inj.mp e
    exact beq_eq_false_iff_ne.mp hne this), ea, eb, eA, eB]
theorem cpl_rev_left (a b : Str) : (cplG a.cps.toList.reverse b.cps.toList.reverse : Int) ≤ a.length := by
  have := cpl_le_left a.cps.toList.reverse b.cps.toList.reverse
  rw [List.length_reverse] at this
  rw [len_toList]
  omega
theorem cpl_rev_right (a b : Str) : (cplG a.cps.toList.reverse b.cps.toList.reverse : Int) ≤ b.length := by
  have := cpl_le_right a.cps.toList.reverse b.cps.toList.reverse
  rw [List.length_reverse] at this
  rw [len_toList]
  omega
theorem take_zero_cut {x : Str} {q : Int} {n : Nat} (h : q = -(n : Int)) (h0 : q = 0) : (Txt.slice x none none).cps.toList = x.cps.toList.take (x.cps.toList.length - n) := by
  rw [slice_none]
  have : n = 0 := by omega
  subst this
  rw [Nat.sub_zero, List.take_length]
theorem take_neg_cut {x : Str} {q : Int} {n : Nat} (h : q = -(n : Int)) (h0 : q ≠ 0) (hl : -q ≤ x.length) : (Txt.slice x none (some q)).cps.toList = x.cps.toList.take (x.cps.toList.length - n) := by
  rw [slice_take (by omega) hl]
  have : (-q).toNat = n := by omega
  rw [this]
theorem core_nil {A B : Str} {k : Int} (h : (A.length : Int) = 0 ∨ (B.length : Int) = 0) : 2 * ((A.length : Int) + B.length) = coreG costN A.cps.toList B.cps.toList k := by
  have h1 := len_toList A
  have h2 := len_toList B
  unfold coreG
  rw [if_pos (by omega), h1, h2]
theorem core_swap {A B : Str} {k : Int} (h1 : (A.length : Int) ≠ 0) (h2 : (B.length : Int) ≠ 0) (h : (B.length : Int) < A.length) : coreG costN A.cps.toList B.cps.toList k = sortedG costN B.cps.toList A.cps.toList k := by
  have e1 := len_toList A
  have e2 := len_toList B
  unfold coreG
  rw [if_neg (by omega), if_pos (by omega)]
theorem core_stay {A B : Str} {k : Int} (h1 : (A.length : Int) ≠ 0) (h2 : (B.length : Int) ≠ 0) (h : ¬ (B.length : Int) < A.length) : coreG costN A.cps.toList B.cps.toList k = sortedG costN A.cps.toList B.cps.toList k := by
  have e1 := len_toList A
  have e2 := len_toList B
  unfold coreG
  rw [if_neg (by omega), if_neg (by omega)]
theorem sorted_far {A B : Str} {k : Int} (h : ((B.length : Int) - A.length) * 2 > k) : k + 1 = sortedG costN A.cps.toList B.cps.toList k := by
  have e1 := len_toList A
  have e2 := len_toList B
  unfold sortedG
  rw [if_pos (by omega)]
theorem sorted_near {A B : Str} {k : Int} (h : ¬ ((B.length : Int) - A.length) * 2 > k) : sortedG costN A.cps.toList B.cps.toList k = rowsG costN A.cps.toList B.cps.toList k B.length 0 (row0 A.length) 0 := by
  have e1 := len_toList A
  have e2 := len_toList B
  unfold sortedG
  rw [if_neg (by omega)]
  rw [show A.cps.toList.length = A.length from Array.length_toList, show B.cps.toList.length = B.length from Array.length_toList]
theorem lsucc {α : Type} {n : Nat} {l : List α} (h : l.length = n + 1) : ∃ a t, l = a :: t ∧ t.length = n := by
  cases l with
  | nil => cases h
  | cons a t => exact ⟨a, t, rfl, Nat.succ.inj h⟩
theorem lnil {α : Type} {l : List α} (h : l.length = 0) : l = [] := List.eq_nil_of_length_eq_zero h
theorem sub_more {n i : Nat} (h : i < n) : n - i = (n - (i + 1)) + 1 := (Nat.sub_add_cancel (Nat.sub_pos_of_lt h)).symm
theorem str_at {y : Str} {i : Nat} (h : i < y.length) : ∃ h : i < y.cps.toList.length, y.cps.toList[i]? = some (y.cps.toList[i]'h) := ⟨by rw [Array.length_toList]; exact h, List.getElem?_eq_getElem _⟩
/-- one row of the table -/
noncomputable def rowAt (x y : Str) (i : Nat) (row : List Int) : List Int × Int × Int :=
  cellsG costN ((y.cps.toList[i]?).getD 0) x.cps.toList x.length 0 row (2 * (i : Int)) (2 * (i : Int)) 9223372036854775807
theorem rows_step {x y : Str} {k : Int} {i : Nat} {row : List Int} {res : Int} (h : i < y.length) :
    rowsG costN x.cps.toList y.cps.toList k (y.length - i) i row res = if (rowAt x y i row).2.2 > k then k + 1 else rowsG costN x.cps.toList y.cps.toList k (y.length - (i + 1)) (i + 1) (rowAt x y i row).1 (rowAt x y i row).2.1 := by
  have e4 : x.length = x.cps.toList.length := Array.length_toList.symm
  obtain ⟨h5, e5⟩ := str_at h
  rw [sub_more h, rowsG]
  unfold rowAt
  simp only [e5, Option.getD_some, ← e4]
theorem cells_step {x : Str} {c : Nat} {j : Nat} {row : List Int} {d res mn : Int} (h : j < x.length) :
    cellsG costN c x.cps.toList (x.length - j) j row d res mn = cellsG costN c x.cps.toList (x.length - (j + 1)) (j + 1) (row.set j (min (min res (row.getD j 0) + 2) (d + costN c ((x.cps.toList[j]?).getD 0)))) (row.getD j 0)
      (min (min res (row.getD j 0) + 2) (d + costN c ((x.cps.toList[j]?).getD 0))) (if min (min res (row.getD j 0) + 2) (d + costN c ((x.cps.toList[j]?).getD 0)) < mn then min (min res (row.getD j 0) + 2) (d + costN c ((x.cps.toList[j]?).getD 0)) else mn) := by
  obtain ⟨h4, e4⟩ := str_at h
  rw [sub_more h, cellsG]
  simp only [e4, Option.getD_some]
theorem item_cost {x y : Str} {i j : Int} (hi : 0 ≤ i) (hi' : i < y.length) (hj : 0 ≤ j) (hj' : j < x.length) : subCost (Txt.item y i) (Txt.item x j) = costN ((y.cps.toList[i.toNat]?).getD 0) ((x.cps.toList[j.toNat]?).getD 0) := by
  rw [item_nn hi hi', item_nn hj hj']
  rfl

theorem rowAt_start {x y : Str} {i : Nat} {row : List Int} : rowAt x y i row = cellsG costN ((y.cps.toList[i]?).getD 0) x.cps.toList (x.length - 0) 0 row ((i : Int) * 2) ((i : Int) * 2) 9223372036854775807 := by
  unfold rowAt
  rw [Int.mul_comm, Nat.sub_zero]

theorem cells_turn {x y : Str} {i j : Nat} {row2 : List Int} {d res2 mn r1 R : Int} {T : List Int × Int × Int} (hj : j < x.length) (hi : i < y.length)
    (hC : T = cellsG costN ((y.cps.toList[i]?).getD 0) x.cps.toList (x.length - j) j row2 d res2 mn) (h1 : r1 = min res2 (row2.getD (Int.toNat j) 0)) (h2 : R = min (r1 + 2) (d + subCost (Txt.item y i) (Txt.item x j))) :
    T = cellsG costN ((y.cps.toList[i]?).getD 0) x.cps.toList (x.length - (j + 1)) (j + 1) (row2.set (Int.toNat j) R) (row2.getD (Int.toNat j) 0) R (if R < mn then R else mn) := by
  have e1 := item_cost (x := x) (y := y) (i := i) (j := j) (by omega) (by omega) (by omega) (by omega)
  simp only [Int.toNat_natCast] at e1 h1 ⊢
  rw [h1, e1] at h2
  rw [hC, cells_step hj, ← h2]
theorem cells_lt {x y : Str} {i j : Nat} {row2 : List Int} {d res2 mn r1 R : Int} {T : List Int × Int × Int} (hj : j < x.length) (hi : i < y.length)
    (hC : T = cellsG costN ((y.cps.toList[i]?).getD 0) x.cps.toList (x.length - j) j row2 d res2 mn) (h1 : r1 = min res2 (row2.getD (Int.toNat j) 0)) (h2 : R = min (r1 + 2) (d + subCost (Txt.item y i) (Txt.item x j))) (h : R < mn) :
    T = cellsG costN ((y.cps.toList[i]?).getD 0) x.cps.toList (x.length - (j + 1)) (j + 1) (row2.set (Int.toNat j) R) (row2.getD (Int.toNat j) 0) R R := by
  have := cells_turn hj hi hC h1 h2
  rw [if_pos h] at this
  exact this
theorem cells_ge {x y : Str} {i j : Nat} {row2 : List Int} {d res2 mn r1 R : Int} {T : List Int × Int × Int} (hj : j < x.length) (hi : i < y.length)
    (hC : T = cellsG costN ((y.cps.toList[i]?).getD 0) x.cps.toList (x.length - j) j row2 d res2 mn) (h1 : r1 = min res2 (row2.getD (Int.toNat j) 0)) (h2 : R = min (r1 + 2) (d + subCost (Txt.item y i) (Txt.item x j))) (h : ¬ R < mn) :
    T = cellsG costN ((y.cps.toList[i]?).getD 0) x.cps.toList (x.length - (j + 1)) (j + 1) (row2.set (Int.toNat j) R) (row2.getD (Int.toNat j) 0) R mn := by
  have := cells_turn hj hi hC h1 h2
  rw [if_neg h] at this
  exact this
theorem rows_cut {x y : Str} {k V : Int} {i : Nat} {row row2 : List Int} {res d res2 mn : Int} (hlev : V = rowsG costN x.cps.toList y.cps.toList k (y.length - i) i row res) (hi : i < y.length)
    (hC : rowAt x y i row = cellsG costN ((y.cps.toList[i]?).getD 0) x.cps.toList (x.length - x.length) x.length row2 d res2 mn) (h : k < mn) : k + 1 = V := by
  rw [Nat.sub_self, cellsG] at hC
  rw [hlev, rows_step hi, hC, if_pos h]
theorem rows_next {x y : Str} {k V : Int} {i : Nat} {row row2 : List Int} {res d res2 mn : Int} (hlev : V = rowsG costN x.cps.toList y.cps.toList k (y.length - i) i row res) (hi : i < y.length)
    (hC : rowAt x y i row = cellsG costN ((y.cps.toList[i]?).getD 0) x.cps.toList (x.length - x.length) x.length row2 d res2 mn) (h : ¬ k < mn) :
    V = rowsG costN x.cps.toList y.cps.toList k (y.length - (i + 1)) (i + 1) row2 res2 := by
  rw [Nat.sub_self, cellsG] at hC
  rw [hlev, rows_step hi, hC, if_neg h]

end

/-! text: base sub -/
section
theorem ofString_inj (a b : String) : (Str.ofString a = Str.ofString b) = (a = b) := by
  rw [Str.ofString_eq_toList, Str.ofString_eq_toList]
  simp only [Str.mk.injEq, eq_iff_iff]
  constructor
  · intro h
    have h1 := congrArg Array.toList h
    simp only [List.toList_toArray] at h1
    have h2 : a.toList = b.toList := by
      have inj : ∀ l l' : List Char, l.map Char.toNat = l'.map Char.toNat → l = l' := by
        intro l
        induction l with
        | nil => intro l' h; cases l' <;> simp_all
        | cons c l ih =>
          intro l' h
          cases l' with
          | nil => simp at h
          | cons d l' =>
            simp only [List.map_cons, List.cons.injEq] at h
            rw [ih l' h.2, Char.toNat_inj.mp h.1]
      exact inj _ _ h1
    exact String.toList_inj.mp h2
  · rintro rfl; rfl

noncomputable abbrev Ls : List Str := looseW hd.view_286 [Str.ofString "COMPILER_FLAG_NAMES"]

/-- a def's contract: called upon a ledger, it hands back a value and a ledger -/
noncomputable def Spec (w : World) (mean : ExcName → Option Value) (mg mb : Str → Option Value) (D : Nat) (f : Addr) (vs : List Value) (news : List (Addr × Obj)) (Post : Value → List (Addr × Obj) → Prop) : Prop :=
  ∀ (dp un : Nat) (gd : Option (List Code)) (cn : Str) (cs : Scope) (a : Addr) (ccd : Value) (cl : List (Str × Addr)) (outer : List Env) (A₀ : Around) (base h₀ : Heap) (L : Addr) (m : Str → Option Value) (s : Shared) (Q E : Value → Shared → Prop),
    Below A₀ base outer h₀ → Fr h₀ L s.heap m → (hk.heap_1 w.params).In h₀ → News h₀ L s.heap news → Top hd.view_286 Ls mean mg mb h₀ → cs.kind = .function →
    dp + D < recursionLimit → un + 8 * D < cLine →
    (∀ r h' tk' news', Fr h₀ L h' m → News h₀ L h' news' → Post r news' → Q r { s with heap := h', toks := tk' }) →
    wpAny (model (OpenLaw.row PySem.Challenge.rw_wj0018_01).prog w) (ktrTop dp un gd cn cs L a ccd cl outer) (call (.ref f) vs) Q E s


/-- a stop for the walk -/
noncomputable def Halt (P : Prop) : Prop := P
theorem Halt.mk {P : Prop} (h : Halt P) : P := h
theorem Halt.go {P : Prop} (h : P) : Halt P := h

/-- a name of the frame, and the names of a list -/
noncomputable def EnvAt (m : Str → Option Value) (x : Str) (v : Value) : Prop := m x = some v
theorem EnvAt.hit {x : Str} {v : Value} {m : Str → Option Value} : EnvAt (fun y => if y = x then some v else m y) x v := if_pos rfl
theorem EnvAt.miss {a b : String} {u v : Value} {m : Str → Option Value} (h : a ≠ b) (r : EnvAt m (Str.ofString a) v) : EnvAt (fun y => if y = Str.ofString b then some u else m y) (Str.ofString a) v :=
  (if_neg fun e => h ((ofString_inj a b) ▸ e)).trans r
noncomputable def EnvHas (m : Str → Option Value) (ps : List (Str × Value)) : Prop := ∀ p ∈ ps, m p.1 = some p.2
theorem EnvHas.nil {m : Str → Option Value} : EnvHas m [] := List.forall_mem_nil _
theorem EnvHas.cons {m : Str → Option Value} {x : Str} {v : Value} {ps : List (Str × Value)} (h : EnvAt m x v) (r : EnvHas m ps) : EnvHas m ((x, v) :: ps) := List.forall_mem_cons.mpr ⟨h, r⟩
theorem ldE {M : Model} {A : Around} {E : Value → Shared → Prop} {s : Shared} {name : Str} {scope : Scope} {L a : Addr} {cd : Value} {h₀ : Heap} {m : Str → Option Value} {x : Str} {pos : Pos} {v : Value} {Q : Value → Shared → Prop} (F : Fr h₀ L s.heap m) (hv : EnvAt m x v) (h : Q v s)
    (hk : scope.kind = .function) (hl : (envOf name scope L a cd).kindOf x = some .local) (hd : (x == ("__debug__" : Str)) = false) :
    wpAny M A (eval (.Name x pos) (envOf name scope L a cd)) Q E s := ld F hv h hk hl hd

/-- what is known at a cut: some letters, the names that hold them, the ledger -/
noncomputable def Cut {σ : Type} (g : Heap) (L : Addr) (s : Shared) (Led : σ → List (Addr × Obj)) (ps : σ → List (Str × Value)) (P : σ → Prop) (s' : Shared) : Prop :=
  ∃ (c : σ) (h' : Heap) (tk : Nat) (m' : Str → Option Value) (news' : List (Addr × Obj)), s' = { s with heap := h', toks := tk } ∧ Fr g L h' m' ∧ News g L h' news' ∧ (∀ p ∈ Led c, p ∈ news') ∧ (EnvHas m' (ps c)) ∧ P c
noncomputable def CutPost (Q : Flow → Shared → Prop) (C : Shared → Prop) (f : Flow) (s' : Shared) : Prop := match f with
  | .next => C s'
  | f => Q f s'
theorem cut_in {σ : Type} {g : Heap} {L : Addr} {s : Shared} {Led : σ → List (Addr × Obj)} {ps : σ → List (Str × Value)} {P : σ → Prop} {h' : Heap} {tk : Nat} {m' : Str → Option Value} {news' : List (Addr × Obj)} (c : σ)
    (F : Fr g L h' m') (N : News g L h' news') (hn : ∀ p ∈ Led c, p ∈ news') (hk : EnvHas m' (ps c)) (hp : P c) : Cut g L s Led ps P { s with heap := h', toks := tk } :=
  ⟨c, h', tk, m', news', rfl, F, N, hn, hk, hp⟩
theorem cut_on {σ : Type} {g : Heap} {L : Addr} {s : Shared} {Led : σ → List (Addr × Obj)} {ps : σ → List (Str × Value)} {P : σ → Prop} {h' : Heap} {tk : Nat} {m' : Str → Option Value} (c : σ)
    (F : Fr g L h' m') (N : News g L h' (Led c)) (hk : EnvHas m' (ps c)) (hp : P c) : Cut g L s Led ps P { s with heap := h', toks := tk } :=
  ⟨c, h', tk, m', Led c, rfl, F, N, fun _ h => h, hk, hp⟩
theorem fr_kst {g h : Heap} {L : Addr} {m : Str → Option Value} (ps : List (Str × Value)) (F : Fr g L h m) (hp : EnvHas m ps) : Fr g L h (kstB m ps) := by
  have e : kstB m ps = m := funext fun z => kstB_eq hp fun _ => rfl
  rw [e]; exact F
theorem cut_at {M : Model} {A : Around} {E : Value → Shared → Prop} {t : Sem Flow} {Q : Flow → Shared → Prop} {s : Shared} {σ : Type} {g : Heap} {L : Addr} (Led : σ → List (Addr × Obj)) (ps : σ → List (Str × Value)) (P : σ → Prop)
    (h1 : wpAny M A t (CutPost Q (Cut g L s Led ps P)) E s) (h2 : ∀ c h' tk u, P c → Fr g L h' (kstB u (ps c)) → News g L h' (Led c) → Q .next { s with heap := h', toks := tk }) : wpAny M A t Q E s := by
  refine wpAny_mono h1 (fun f s' q => ?_) fun _ _ e => e
  cases f with
  | next =>
    obtain ⟨c, h', tk, m', news', rfl, F, N, hn, hk, hp⟩ := q
    exact h2 c h' tk m' hp (fr_kst _ F hk) fun p hp' => N p (hn p hp')
  | brk => exact q
  | cont => exact q
  | ret v => exact q


/-- a turn's end -/
noncomputable def WPost (Q : Flow → Shared → Prop) (C : Shared → Prop) (f : Flow) (s' : Shared) : Prop := match f with
  | .ret v => Q (.ret v) s'
  | .brk => Q .next s'
  | _ => C s'
section
variable {prog : Program} {w : World} {A : Around} {E : Value → Shared → Prop} {Q : Flow → Shared → Prop} {s : Shared} {env : Env} {g : Heap} {L : Addr} {σ : Type}
theorem while_cut {test : Expr} {body : List Stmt} {pos : Pos} {m₀ : Str → Option Value} {news₀ : List (Addr × Obj)} (Led : σ → List (Addr × Obj)) (ps : σ → List (Str × Value)) (P : σ → Prop) (μ : σ → Nat) (c₀ : σ)
    (F : Fr g L s.heap m₀) (N : News g L s.heap news₀) (hn : ∀ p ∈ Led c₀, p ∈ news₀) (hk : EnvHas m₀ (ps c₀)) (hp : P c₀)
    (turn : ∀ c u h tk, P c → Fr g L h (kstB u (ps c)) → News g L h (Led c) → wpAny (model prog w) A (isTrue test env (eval test env)) (fun b s₂ =>
      if b = true then wpAny (model prog w) A (execs body env) (WPost Q (Cut g L s Led ps fun c' => P c' ∧ μ c' < μ c)) E s₂ else Q .next s₂) E { s with heap := h, toks := tk })
    (hE : PassesOwn (model prog w) A env E := by passes_own) :
    wpAny (model prog w) A (exec (.While test body [] pos) env) Q E s := by
  refine While_inv2 (fun n m nx => ∃ c : σ, μ c = n ∧ nx = Led c ∧ (EnvHas m (ps c)) ∧ P c) F (fun p hp' => N p (hn p hp')) ⟨c₀, rfl, rfl, hk, hp⟩ ?_ hE
  rintro n m₁ nx h tk F₁ N₁ ⟨c, rfl, rfl, hk', hp'⟩
  refine wpAny_mono (turn c m₁ h tk hp' (fr_kst _ F₁ hk') N₁) (fun b s₂ q => ?_) fun _ _ e => e
  cases b with
  | false => simpa using q
  | true =>
    simp only [if_true] at q ⊢
    refine wpAny_mono q (fun f s₃ z => ?_) fun _ _ e => e
    have fin : Cut g L s Led ps (fun c' => P c' ∧ μ c' < μ c) s₃ → ∃ h' tk m₂ news₂ n', s₃ = { s with heap := h', toks := tk } ∧ Fr g L h' m₂ ∧ News g L h' news₂ ∧ n' < μ c ∧ ∃ c : σ, μ c = n' ∧ news₂ = Led c ∧ (EnvHas m₂ (ps c)) ∧ P c := by
      rintro ⟨c', h', tk', m', news', rfl, F', N', hn', hk9, hp9, hm9⟩
      exact ⟨h', tk', m', Led c', μ c', rfl, F', fun p hp => N' p (hn' p hp), hm9, c', rfl, rfl, hk9, hp9⟩
    cases f with
    | ret v => exact z
    | brk => exact z
    | next => exact fin z
    | cont => exact fin z

/-- a for over a range, by what holds between the turns -/
theorem range_cut {x : Str} {body : List Stmt} {r : Addr} {a₀ b₀ : Int} {t₀ u₀ v₀ : Tok} {n : Nat} {m₀ : Str → Option Value} {news₀ : List (Addr × Obj)} (Led : σ → List (Addr × Obj)) (ps : σ → List (Str × Value)) (P : Nat → σ → Prop) (c₀ : σ)
    (hh : A.handled = none) (hr : IsRange s.heap r a₀ b₀ 1 t₀ u₀ v₀) (hsmall : Builtin.Range.small a₀ b₀ 1 = true) (hsize : Builtin.Range.rangeSize a₀ b₀ 1 = (n : Int))
    (F : Fr g env.locals s.heap m₀) (N : News g env.locals s.heap news₀) (hn : ∀ p ∈ Led c₀, p ∈ news₀) (hk : EnvHas m₀ (ps c₀)) (hadr : ∀ c, (Led c).map (·.1) = (Led c₀).map (·.1)) (hp : P 0 c₀)
    (turn : ∀ (i : Nat) c u h tk t own, i < n → P i c → OwnOff own ((Led c₀).map (·.1)) → Fr g env.locals h (kstB u ((x, .int (a₀ + i) t) :: ps c)) → News g env.locals h (Led c ++ own) →
      wpAny (model prog w) A (execs body env) (WPost Q (Cut g env.locals { s with heap := h, toks := tk } (fun c' => Led c' ++ own) ps (P (i + 1)))) E { s with heap := h, toks := tk })
    (done : ∀ c u h tk, P n c → Fr g env.locals h (kstB u (ps c)) → News g env.locals h (Led c) → Q .next { s with heap := h, toks := tk }) :
    wpAny (model prog w) A (pyIter (.ref r)) (fun it s₂ => LoopAtV prog w A g env x body Q E it s₂) E s := by
  refine wpAny_pyIter_range hr hsmall ?_
  have W : Walks prog w A s.heap.objs.size [s.heap.objs.size] [s.heap.objs.size] n (fun i v => i < n ∧ ∃ t, v = .int (a₀ + i * 1) t)
      (fun i h => IsRangeIter h s.heap.objs.size (a₀ + (i : Nat) * 1) ((n : Int) - (i : Nat)) 1) := (Walks.range hh _ a₀ 1 n).bound
  have N0 : News g env.locals s.heap (Led c₀) := fun p hp => N p (hn p hp)
  refine loop_invN (fun i m nx => ∃ c : σ, nx = Led c ∧ (EnvHas m (ps c)) ∧ P i c) W ?_ ?_ ?_ ?_ (by show IsRangeIter _ _ _ _ _; rw [hsize]; simpa using Heap.get?_push_size _ rfl) (F.push _) (fun p hp => ⟨Heap.get?_push_of_some _ (N0 p hp).1, (N0 p hp).2⟩) ⟨c₀, rfl, hk, hp⟩ ?_ ?_
  · intro hm
    exact absurd F.ns.lt ((List.mem_singleton.mp hm) ▸ Nat.lt_irrefl _)
  · intro b hb
    rw [List.mem_singleton.mp hb]
    exact next_is_new F
  · intro p hp hI
    exact absurd (Heap.lt_size (N0 p hp).1) ((List.mem_singleton.mp hI) ▸ Nat.lt_irrefl _)
  · intro p hp hI
    exact absurd (Heap.lt_size (N0 p hp).1) ((List.mem_singleton.mp hI) ▸ Nat.lt_irrefl _)
  · rintro i v m₁ nx h tk own hi ⟨_, t, rfl⟩ _ hoff ⟨c, rfl, hk', hp'⟩ F₁ N₁
    have e1 : a₀ + (i : Int) * 1 = a₀ + (i : Int) := by omega
    rw [e1] at F₁
    have F₂ : Fr g env.locals h (kstB m₁ ((x, .int (a₀ + i) t) :: ps c)) := by
      have e : kstB m₁ ((x, .int (a₀ + i) t) :: ps c) = fun y => if y = x then some (.int (a₀ + i) t) else m₁ y := by
        funext y
        show (if y = x then _ else kstB m₁ (ps c) y) = _
        by_cases hy : y = x
        · rw [if_pos hy, if_pos hy]
        · rw [if_neg hy, if_neg hy]
          exact kstB_eq hk' fun _ => rfl
      rw [e]; exact F₁
    refine wpAny_mono (turn i c m₁ h tk t own hi hp' hoff F₂ N₁) (fun f s₂ z => ?_) fun _ _ e => e
    have fin : Cut g env.locals { s with heap := h, toks := tk } (fun c' => Led c' ++ own) ps (P (i + 1)) s₂ → InvEndN g env.locals (fun m nx => ∃ c : σ, nx = Led c ∧ (EnvHas m (ps c)) ∧ P (i + 1) c) own ((Led c₀).map (·.1)) { s with heap := h, toks := tk } s₂ := by
      rintro ⟨c', h', tk', m', news', e, F', N', hn', hk9, hp9⟩
      exact ⟨h', tk', m', news', Led c', e, F', N', fun p hp => hn' p (List.mem_append.mpr (.inl hp)), fun p hp => hn' p (List.mem_append.mpr (.inr hp)), hadr c', c', rfl, hk9, hp9⟩
    cases f with
    | ret v => exact z
    | brk => exact z
    | next => exact fin z
    | cont => exact fin z
  · rintro m₁ nx h tk ⟨c, rfl, hk', hp'⟩ F₁ N₁
    exact done c m₁ h tk hp' (fr_kst _ F₁ hk') N₁
end


/-! ## slices of texts, whatever the ends -/
inductive OptV : Value → Option Int → Prop where
  | none : OptV .none none
  | some {i : Int} {t : Tok} : OptV (.int i t) (some i)
noncomputable def SliceLen (x : Str) : Option Int → Option Int → Prop
  | some i, none => 0 ≤ i → i ≤ (x.length : Int) → ((Txt.slice x (some i) none).length : Int) = x.length - i
  | none, some j => j < 0 → -j ≤ (x.length : Int) → ((Txt.slice x none (some j)).length : Int) = x.length + j
  | none, none => (Txt.slice x none none).length = x.length
  | _, _ => True
theorem sliceLen (x : Str) : ∀ lo uo, SliceLen x lo uo
  | some i, none => fun h0 h1 => by
    rw [len_toList, slice_drop h0 h1, List.length_drop, len_toList]
    have := len_toList x
    omega
  | none, some j => fun h0 h1 => slice_take_len h0 h1
  | none, none => by show (Txt.slice x none none).length = x.length; rw [slice_none]
  | some _, some _ => trivial
theorem slice_strA {prog : Program} {w : World} {A : Around} {E : Value → Shared → Prop} {s : Shared} {h₀ : Heap} {L : Addr} {m : Str → Option Value} {news : List (Addr × Obj)} {x : Str} {t : Tok} {Q : Value → Shared → Prop} {value slice : PySem.Expr} {l u : Value} {lo uo : Option Int}
    (hl : OptV l lo) (hu : OptV u uo) (hF : Fr h₀ L s.heap m) (hN : News h₀ L s.heap news) (h : ∀ h' t' k, Fr h₀ L h' m → News h₀ L h' news → (Txt.slice x lo uo).length ≤ x.length → SliceLen x lo uo → Q (.str (Txt.slice x lo uo) t') { s with heap := h', toks := k })
    (hs : subscripted slice false (.str x t) (.ref s.heap.objs.size) = operate [.ref s.heap.objs.size, .str x t] (getItem (.str x t) (.ref s.heap.objs.size)))
    (ht : ∀ r, letTemporaryGo value (.str x t) r = pure ()) (hsz : x.length ≤ sizeLine) :
    wpAny (model prog w) A (subscriptTail value slice (.str x t) (.ref s.heap.objs.size)) Q E { s with heap := s.heap.push { cls := .type "slice", data := .fields #[l, u, .none] } } := by
  cases hl with
  | none => cases hu with
    | none => exact slice_strN_nn_len hF hN (fun h' t' k a b c => h h' t' k a b c (sliceLen _ _ _)) hs ht hsz
    | some => exact slice_strN_ns_len hF hN (fun h' t' k a b c => h h' t' k a b c (sliceLen _ _ _)) hs ht hsz
  | some => cases hu with
    | none => exact slice_strN_sn_len hF hN (fun h' t' k a b c => h h' t' k a b c (sliceLen _ _ _)) hs ht hsz
    | some => exact slice_strN_ss_len hF hN (fun h' t' k a b c => h h' t' k a b c (sliceLen _ _ _)) hs ht hsz

/-! ## list(range(a, b, 2)) -/
theorem ints_of {f : Nat → Int} : ∀ (vs : List Value) (n k : Nat), vs.length = n → (∀ (j : Nat) (v : Value), vs[j]? = some v → ∃ t, v = .int (f (k + j)) t) → IntsAre vs ((List.range n).map fun i => f (k + i))
  | [], n, k, e, _ => by subst e; exact IntsAre.nil
  | v :: r, n, k, e, h => by
    subst e
    rw [List.length_cons, List.range_succ_eq_map, List.map_cons, List.map_map]
    obtain ⟨t, ht⟩ := h 0 v rfl
    subst ht
    have e2 : (fun i => f (k + i)) ∘ Nat.succ = fun i => f (k + 1 + i) := by
      funext i; show f (k + (i + 1)) = f (k + 1 + i); congr 1; omega
    rw [e2]
    refine IntsAre.cons _ _ (ints_of r r.length (k + 1) rfl fun j v hj => ?_)
    obtain ⟨t', ht'⟩ := h (j + 1) v hj
    refine ⟨t', ht'.trans ?_⟩
    congr 2; omega
theorem list_range2 {prog : Program} {w : World} {A : Around} {E : Value → Shared → Prop} {s : Shared} {h₀ : Heap} {L r : Addr} {m : Str → Option Value} {news : List (Addr × Obj)} {b : Int} {t₀ u₀ v₀ : Tok} {n : Nat} {Q : Value → Shared → Prop}
    (hh : A.handled = none) (F : Fr h₀ L s.heap m) (N : News h₀ L s.heap news) (hr : IsRange s.heap r 2 b 2 t₀ u₀ v₀) (hsmall : Builtin.Range.small 2 b 2 = true) (hn : Builtin.Range.rangeSize 2 b 2 = (n : Int)) (hz : n ≤ 2 ^ 24)
    (h : ∀ D us c h' tk, Fr h₀ L h' m → News h₀ L h' ((D, listOf (List.toArray us) c) :: news) → (∀ p ∈ news, p.1 < D) → IntsAre us (row0 n) → Q (.ref D) { s with heap := h', toks := tk }) :
    wpAny (model prog w) A (call (.type "list") [.ref r]) Q E s := by
  refine call_list_range hh hr hsmall hn hz fun h' tk acc c hk hD hI => ?_
  have hD' : h'.get? s.heap.objs.size = some (listOf (List.toArray acc.toList) c) := by
    rw [Array.toArray_toList]
    exact hD
  refine h _ acc.toList c h' tk (F.keeps hk) (news_pushed F N hk hD' rfl) (fun p hp => Heap.lt_size (N p hp).1) ?_
  have := ints_of (f := fun i => 2 + 2 * (i : Int)) acc.toList n 0 (by rw [Array.length_toList]; exact hI.1) fun j v hj => by
    obtain ⟨t, ht⟩ := hI.2 j v (by rw [← hj, Array.getElem?_toList])
    exact ⟨t, ht.trans (by congr 1; omega)⟩
  unfold row0
  simpa using this
theorem small_two : ∀ n : Nat, n ≤ 4 → Builtin.Range.small 2 (2 * ((n : Int) + 1)) 2 = true := by decide
theorem size_two : ∀ n : Nat, n ≤ 4 → Builtin.Range.rangeSize 2 (2 * ((n : Int) + 1)) 2 = (n : Int) := by decide

theorem own_ne {X own : List (Addr × Obj)} {D : Addr} {o : Obj} (h1 : ∀ p ∈ X, p.1 ≠ D) (h : OwnOff own (List.map (fun (x : Addr × Obj) => x.1) ((D, o) :: X))) : ∀ p ∈ X ++ own, p.1 ≠ D := by
  intro p hp
  rcases List.mem_append.mp hp with hp | hp
  · exact h1 p hp
  · exact h p hp D (List.mem_cons_self ..)
theorem ne_of_lts {X : List (Addr × Obj)} {D : Addr} (h : ∀ p ∈ X, p.1 < D) : ∀ p ∈ X, p.1 ≠ D := fun p hp => Nat.ne_of_lt (h p hp)

theorem min_two_V {prog : Program} {w : World} {A : Around} {E : Value → Shared → Prop} {s : Shared} {h₀ : Heap} {L : Addr} {m : Str → Option Value} {news : List (Addr × Obj)} {a b : Int} {t u : Tok} {Q : Value → Shared → Prop}
    (hh : A.handled = none) (F : Fr h₀ L s.heap m) (N : News h₀ L s.heap news)
    (h : ∀ h' tk r tr, r = min a b → Fr h₀ L h' m → News h₀ L h' news → Q (.int r tr) { s with heap := h', toks := tk }) :
    wpAny (model prog w) A (call (.builtin "min") [.int a t, .int b u]) Q E s :=
  min_two_N hh F N fun h' tk F' N' => h h' tk _ _ (by omega) F' N'

theorem ne_of_lts2 {X : List (Addr × Obj)} {a D : Addr} (h : a < D ∧ AllLt D X) (o : Obj) : ∀ p ∈ (a, o) :: X, p.1 ≠ D :=
  ne_of_lts (List.forall_mem_cons.mpr ⟨h.1, kst_ltOf h.2⟩)

set_option maxHeartbeats 8000000 in
theorem sub_spec (w : World) (mean : ExcName → Option Value) (mg mb : Str → Option Value) (x y : Str) (t1 t2 : Tok) (news : List (Addr × Obj)) (hx : x.length ≤ 100) (hy : y.length ≤ 100) :
    Spec w mean mg mb 1 21 [.str x t1, .str y t2] news (fun r n' => n' = news ∧ ∃ t, r = .int (subCost x y) t) := by
  unfold Spec
  w_top off
  k_fill
  intro dp un gd cn cs a ccd cl outer A₀ base h₀ L m s Q E B F X N T hk hdp hun hret
  refine wpAny_call ?_
  k_dflt cell_enter
  k_steps
  all_goals (refine hret _ _ _ _ (by k_asm) (by k_asm) ⟨rfl, ktn_int ?_⟩)
  all_goals (unfold subCost; simp_all)

end

/-! text: loops transmodel -/
section
/-! ## a for over what is walked, by what holds between the turns -/
section
variable {prog : Program} {w : World} {A : Around} {E : Value → Shared → Prop} {Q : Flow → Shared → Prop} {s : Shared} {env : Env} {g : Heap} {σ : Type}
theorem walk_cut {x : Str} {body : List Stmt} {I : Addr} {fp wr : List Addr} {n : Nat} {R : Nat → Value → Prop} {St : Nat → Heap → Prop} {m₀ : Str → Option Value} (Led : σ → List (Addr × Obj)) (ps : σ → List (Str × Value)) (P : Nat → σ → Prop) (c₀ : σ)
    (W : Walks prog w A I fp wr n R St) (hLf : env.locals ∉ fp) (hwr : ∀ b ∈ wr, g.get? b = none) (hnw : ∀ p ∈ Led c₀, p.1 ∉ wr) (hfp : ∀ q ∈ Led c₀, q.1 ∉ fp) (hst : St 0 s.heap)
    (F : Fr g env.locals s.heap m₀) (N : News g env.locals s.heap (Led c₀)) (hk : EnvHas m₀ (ps c₀)) (hadr : ∀ c, (Led c).map (·.1) = (Led c₀).map (·.1)) (hp : P 0 c₀)
    (turn : ∀ (i : Nat) v c u h tk own, i < n → R i v → P i c → OwnOff own ((Led c₀).map (·.1)) → Fr g env.locals h (kstB u ((x, v) :: ps c)) → News g env.locals h (Led c ++ own) →
      wpAny (model prog w) A (execs body env) (WPost Q (Cut g env.locals { s with heap := h, toks := tk } (fun c' => Led c' ++ own) ps (P (i + 1)))) E { s with heap := h, toks := tk })
    (done : ∀ c u h tk, P n c → Fr g env.locals h (kstB u (ps c)) → News g env.locals h (Led c) → Q .next { s with heap := h, toks := tk }) :
    LoopAtV prog w A g env x body Q E (.ref I) s := by
  refine loop_invN (fun i m nx => ∃ c : σ, nx = Led c ∧ (EnvHas m (ps c)) ∧ P i c) W hLf hwr hnw hfp hst F N ⟨c₀, rfl, hk, hp⟩ ?_ ?_
  · rintro i v m₁ nx h tk own hi hR _ hoff ⟨c, rfl, hk', hp'⟩ F₁ N₁
    have F₂ : Fr g env.locals h (kstB m₁ ((x, v) :: ps c)) := by
      have e : kstB m₁ ((x, v) :: ps c) = fun y => if y = x then some v else m₁ y := by
        funext y
        show (if y = x then _ else kstB m₁ (ps c) y) = _
        by_cases hy : y = x
        · rw [if_pos hy, if_pos hy]
        · rw [if_neg hy, if_neg hy]
          exact kstB_eq hk' fun _ => rfl
      rw [e]; exact F₁
    refine wpAny_mono (turn i v c m₁ h tk own hi hR hp' hoff F₂ N₁) (fun f s₂ z => ?_) fun _ _ e => e
    have fin : Cut g env.locals { s with heap := h, toks := tk } (fun c' => Led c' ++ own) ps (P (i + 1)) s₂ → InvEndN g env.locals (fun m nx => ∃ c : σ, nx = Led c ∧ (EnvHas m (ps c)) ∧ P (i + 1) c) own ((Led c₀).map (·.1)) { s with heap := h, toks := tk } s₂ := by
      rintro ⟨c', h', tk', m', news', e, F', N', hn', hk9, hp9⟩
      exact ⟨h', tk', m', news', Led c', e, F', N', fun p hp => hn' p (List.mem_append.mpr (.inl hp)), fun p hp => hn' p (List.mem_append.mpr (.inr hp)), hadr c', c', rfl, hk9, hp9⟩
    cases f with
    | ret v => exact z
    | brk => exact z
    | next => exact fin z
    | cont => exact fin z
  · rintro m₁ nx h tk ⟨c, rfl, hk', hp'⟩ F₁ N₁
    exact done c m₁ h tk hp' (fr_kst _ F₁ hk') N₁

theorem tuple_cut {x : Str} {body : List Stmt} {ax : Addr} {vs : List Value} {k : Nat} {m₀ : Str → Option Value} {news₀ : List (Addr × Obj)} (Led : σ → List (Addr × Obj)) (ps : σ → List (Str × Value)) (P : Nat → σ → Prop) (c₀ : σ)
    (hh : A.handled = none) (F : Fr g env.locals s.heap m₀) (N : News g env.locals s.heap ((ax, ({ cls := .type "tuple", data := .seq vs.toArray k } : Obj)) :: news₀)) (hn : ∀ p ∈ Led c₀, p ∈ news₀) (hax : ∀ p ∈ news₀, p.1 ≠ ax) (hk : EnvHas m₀ (ps c₀)) (hadr : ∀ c, (Led c).map (·.1) = (Led c₀).map (·.1)) (hp : P 0 c₀)
    (turn : ∀ (i : Nat) v c u h tk own, i < vs.length → vs[i]? = some v → P i c → OwnOff own ((Led c₀).map (·.1)) → Fr g env.locals h (kstB u ((x, v) :: ps c)) → News g env.locals h (Led c ++ own) →
      wpAny (model prog w) A (execs body env) (WPost Q (Cut g env.locals { s with heap := h, toks := tk } (fun c' => Led c' ++ own) ps (P (i + 1)))) E { s with heap := h, toks := tk })
    (done : ∀ c u h tk, P vs.length c → Fr g env.locals h (kstB u (ps c)) → News g env.locals h (Led c) → Q .next { s with heap := h, toks := tk }) :
    wpAny (model prog w) A (pyIter (.ref ax)) (fun it s₂ => LoopAtV prog w A g env x body Q E it s₂) E s := by
  have hx := N _ (List.mem_cons_self ..)
  have hl : s.heap.IsTuple ax vs.toArray := ⟨_, hx.1, rfl, k, rfl⟩
  have hlt : ax < s.heap.objs.size := Heap.lt_size hx.1
  have N0 : News g env.locals s.heap (Led c₀) := fun p hp => N p (.tail _ (hn p hp))
  refine wpAny_pyIter_tuple hl ?_
  have W := Walks.tuple (prog := prog) (w := w) hh s.heap.objs.size ax (Nat.ne_of_lt hlt) vs.toArray
  have hlen : vs.toArray.size = vs.length := by simp
  rw [hlen] at W
  refine walk_cut Led ps P c₀ W ?_ ?_ ?_ ?_ ⟨⟨_, Heap.get?_push_size _ rfl, rfl, rfl⟩, hl.at fun o e => Heap.get?_push_of_some _ e⟩ (F.push _) (fun p hp => ⟨Heap.get?_push_of_some _ (N0 p hp).1, (N0 p hp).2⟩) hk hadr hp ?_ done
  · intro hm
    rcases List.mem_cons.mp hm with e | hm
    · exact absurd F.ns.lt (e ▸ Nat.lt_irrefl _)
    · exact hx.2.1 (List.mem_singleton.mp hm).symm
  · intro b hb
    rw [List.mem_singleton.mp hb]
    exact next_is_new F
  · intro p hp hI
    exact absurd (Heap.lt_size (N0 p hp).1) ((List.mem_singleton.mp hI) ▸ Nat.lt_irrefl _)
  · intro p hp hI
    rcases List.mem_cons.mp hI with e | hI
    · exact absurd (Heap.lt_size (N0 p hp).1) (e ▸ Nat.lt_irrefl _)
    · exact hax p (hn p hp) (List.mem_singleton.mp hI)
  · intro i v c u h tk own hi hR hp' hoff F₁ N₁
    exact turn i v c u h tk own hi (by simpa using hR) hp' hoff F₁ N₁
end

/-! ## the transform -/
noncomputable def stepW (b i : Nat) (ns : List Int) : List Int := if i &&& b = 0 then (ns.set i (ns.getD i 0 + ns.getD (i ||| b) 0)).set (i ||| b) (ns.getD i 0 - ns.getD (i ||| b) 0) else ns
noncomputable def runW (b : Nat) : Nat → Nat → List Int → List Int
  | 0, _, ns => ns
  | n + 1, i, ns => runW b n (i + 1) (stepW b i ns)
noncomputable def tailW : Nat → List Int → List Int
  | 0, ns => runW 4 8 0 (runW 2 8 0 (runW 1 8 0 ns))
  | 1, ns => runW 4 8 0 (runW 2 8 0 ns)
  | 2, ns => runW 4 8 0 ns
  | _, ns => ns
theorem bit_facts : ∀ j : Nat, j < 8 → ∀ b : Nat, b = 1 ∨ b = 2 ∨ b = 4 → Builtin.bitAnd (j : Int) (b : Int) = ((j &&& b : Nat) : Int) ∧ Builtin.bitOr (j : Int) (b : Int) = ((j ||| b : Nat) : Int) ∧ j ||| b < 8 := by
  intro j hj b hb
  have h : ∀ j : Fin 8, ∀ b : Fin 5, (b.val = 1 ∨ b.val = 2 ∨ b.val = 4) → Builtin.bitAnd (j.val : Int) (b.val : Int) = ((j.val &&& b.val : Nat) : Int) ∧ Builtin.bitOr (j.val : Int) (b.val : Int) = ((j.val ||| b.val : Nat) : Int) ∧ j.val ||| b.val < 8 := by decide +kernel
  exact h ⟨j, hj⟩ ⟨b, by omega⟩ hb
theorem run_step (b i : Nat) (ns : List Int) (h : i < 8) : runW b (8 - i) i ns = runW b (8 - (i + 1)) (i + 1) (stepW b i ns) := by
  rw [sub_more h, runW]
theorem run_and {b j : Nat} {ns T : List Int} {k : Nat} (hj : j < 8) (hb : b = 1 ∨ b = 2 ∨ b = 4) (hT : T = tailW k (runW b (8 - j) j ns)) (h : Builtin.bitAnd (j : Int) (b : Int) = 0) :
    T = tailW k (runW b (8 - (j + 1)) (j + 1) ((ns.set (Int.toNat j) (ns.getD (Int.toNat j) 0 + ns.getD (Int.toNat (Builtin.bitOr (j : Int) (b : Int))) 0)).set (Int.toNat (Builtin.bitOr (j : Int) (b : Int))) (ns.getD (Int.toNat j) 0 - ns.getD (Int.toNat (Builtin.bitOr (j : Int) (b : Int))) 0))) := by
  obtain ⟨e1, e2, _⟩ := bit_facts j hj b hb
  rw [e1] at h
  rw [hT, run_step _ _ _ hj, stepW, if_pos (by omega), e2]
  simp only [Int.toNat_natCast]
theorem run_nand {b j : Nat} {ns T : List Int} {k : Nat} (hj : j < 8) (hb : b = 1 ∨ b = 2 ∨ b = 4) (hT : T = tailW k (runW b (8 - j) j ns)) (h : Builtin.bitAnd (j : Int) (b : Int) ≠ 0) :
    T = tailW k (runW b (8 - (j + 1)) (j + 1) ns) := by
  obtain ⟨e1, e2, _⟩ := bit_facts j hj b hb
  rw [e1] at h
  rw [hT, run_step _ _ _ hj, stepW, if_neg (by omega)]
theorem tail_turn {i : Nat} (hi : i < 3) {v : Value} {t1 t2 t4 : Tok} (h : [Value.int 1 t1, Value.int 2 t2, Value.int 4 t4][i]? = some v) : ∃ (b : Nat) (t : Tok), v = .int (b : Int) t ∧ (b = 1 ∨ b = 2 ∨ b = 4) ∧ ∀ ns, tailW i ns = tailW (i + 1) (runW b 8 0 ns) := by
  match i, hi with
  | 0, _ => cases h; exact ⟨1, t1, rfl, by omega, fun _ => rfl⟩
  | 1, _ => cases h; exact ⟨2, t2, rfl, by omega, fun _ => rfl⟩
  | 2, _ => cases h; exact ⟨4, t4, rfl, by omega, fun _ => rfl⟩

end

/-! text: plain1 -/
section
/-! ## plain law 1: the texts of two numbers are as far apart as their xor tells -/
section
variable {α β : Type} [DecidableEq α] [DecidableEq β] {cost : α → α → Int} {cost' : β → β → Int} {f : α → β}
theorem cpl_map (hf : ∀ x y, f x = f y → x = y) : ∀ A B : List α, cplG (A.map f) (B.map f) = cplG A B
  | [], B => by rw [List.map_nil, cpl_nil_left, cpl_nil_left]
  | _ :: _, [] => by rw [List.map_nil, cpl_nil_right, cpl_nil_right]
  | x :: A, y :: B => by
    rw [List.map_cons, List.map_cons, cpl_cons, cpl_cons, cpl_map hf A B]
    by_cases h : x = y
    · rw [if_pos h, if_pos (congrArg f h)]
    · rw [if_neg h, if_neg fun e => h (hf _ _ e)]
theorem cells_map (hc : ∀ x y, cost' (f x) (f y) = cost x y) (c : α) (A : List α) : ∀ (n i : Nat) (row : List Int) (d res mn : Int), cellsG cost' (f c) (A.map f) n i row d res mn = cellsG cost c A n i row d res mn
  | 0, _, _, _, _, _ => rfl
  | n + 1, i, row, d, res, mn => by
    simp only [cellsG, List.getElem?_map]
    cases A[i]? with
    | none => exact cells_map hc c A n (i + 1) _ _ _ _
    | some x =>
      simp only [Option.map_some, hc]
      exact cells_map hc c A n (i + 1) _ _ _ _
theorem rows_map (hc : ∀ x y, cost' (f x) (f y) = cost x y) (A B : List α) (m : Int) : ∀ (n j : Nat) (row : List Int) (res : Int), rowsG cost' (A.map f) (B.map f) m n j row res = rowsG cost A B m n j row res
  | 0, _, _, _ => rfl
  | n + 1, j, row, res => by
    simp only [rowsG, List.getElem?_map]
    cases B[j]? with
    | none => rfl
    | some c =>
      simp only [Option.map_some, List.length_map, cells_map hc]
      split
      · rfl
      · exact rows_map hc A B m n (j + 1) _ _
theorem sorted_map (hc : ∀ x y, cost' (f x) (f y) = cost x y) (A B : List α) (m : Int) : sortedG cost' (A.map f) (B.map f) m = sortedG cost A B m := by
  unfold sortedG
  rw [List.length_map, List.length_map, rows_map hc]
theorem core_map (hc : ∀ x y, cost' (f x) (f y) = cost x y) (A B : List α) (m : Int) : coreG cost' (A.map f) (B.map f) m = coreG cost A B m := by
  unfold coreG
  rw [List.length_map, List.length_map, sorted_map hc, sorted_map hc]
theorem lev_map (hf : ∀ x y, f x = f y → x = y) (hc : ∀ x y, cost' (f x) (f y) = cost x y) (A B : List α) (m : Int) : levG cost' (A.map f) (B.map f) m = levG cost A B m := by
  unfold levG
  by_cases h : A = B
  · rw [if_pos h, if_pos (congrArg _ h)]
  · rw [if_neg h, if_neg fun e => h ((List.map_inj_right (fun x y => hf x y)).mp e), cpl_map hf, ← List.map_drop, ← List.map_drop, ← List.map_reverse, ← List.map_reverse, cpl_map hf, List.length_map, List.length_map, ← List.map_take, ← List.map_take, core_map hc]
end
noncomputable def costF (x y : Fin 7) : Int := if x = y then 0 else if (x = 0 ∧ y = 6) ∨ (x = 6 ∧ y = 0) then 1 else 2
/-- the piece at a place: of the bare ones or of the marked ones -/
noncomputable def bareF (odd : Bool) : List (List (Fin 7)) := if odd then [[0], [2], [], [3]] else [[0], [], [1], []]
noncomputable def markF (odd : Bool) : List (List (Fin 7)) := if odd then [[6], [4], [1], [5]] else [[6], [3], [2], [4]]
noncomputable def bitOf (number place : Nat) : Bool := number.testBit (if place = 0 then 0 else if place = 2 then 1 else 2)
noncomputable def pieceF (odd : Bool) (number place : Nat) : List (Fin 7) := ((if bitOf number place then markF odd else bareF odd)[place]?).getD []
noncomputable def textF (odd : Bool) (turned number : Nat) : List (Fin 7) := (List.range 4).flatMap fun p => pieceF odd number ((p + turned) % 4)
theorem far_F : ∀ (odd : Bool) (turned : Fin 4) (x y : Fin 8) (d : Fin 3), levG costF (textF odd turned x) (textF odd turned y) (((x.val ^^^ y.val : Nat) : Int) + ((d.val : Int) - 1)) = ((x.val ^^^ y.val : Nat) : Int) := by decide +kernel
theorem short_F : ∀ (odd : Bool) (turned : Fin 4) (x : Fin 8), (textF odd turned x).length ≤ 4 := by decide +kernel
/-- the letters' numbers -/
noncomputable def stepN (i : Nat) : Nat := [1, 3, 5, 7, 9, 11, 15, 17, 19, 21, 23, 25].getD i 1
noncomputable def letN (r i : Nat) (k : Fin 7) : Nat := if k = 6 then 65 + r % 26 else 97 + (r + k.val * stepN i) % 26
theorem let_inj : ∀ (r : Fin 26) (i : Fin 12) (k l : Fin 7), letN r i k = letN r i l → k = l := by decide +kernel
theorem lower_small : ∀ k : Fin 26, Txt.lower ⟨#[97 + k.val]⟩ = ⟨#[97 + k.val]⟩ := by decide +kernel
theorem lower_great : ∀ k : Fin 26, Txt.lower ⟨#[65 + k.val]⟩ = ⟨#[97 + k.val]⟩ := by decide +kernel
theorem upper_small : ∀ k : Fin 26, Txt.upper ⟨#[97 + k.val]⟩ = ⟨#[65 + k.val]⟩ := by decide +kernel
noncomputable def lowN (r i : Nat) (k : Fin 7) : Nat := if k = 6 then 97 + r % 26 else 97 + (r + k.val * stepN i) % 26
theorem lower_letN (r i : Nat) (k : Fin 7) : Txt.lower ⟨#[letN r i k]⟩ = ⟨#[lowN r i k]⟩ := by
  unfold letN lowN
  split
  · exact lower_great ⟨r % 26, Nat.mod_lt _ (by decide)⟩
  · exact lower_small ⟨(r + k.val * stepN i) % 26, Nat.mod_lt _ (by decide)⟩
theorem low_cost : ∀ (r : Fin 26) (i : Fin 12) (k l : Fin 7), (if letN r i k = letN r i l then (0 : Int) else if lowN r i k = lowN r i l then 1 else 2) = costF k l := by decide +kernel
theorem cost_letN (r : Fin 26) (i : Fin 12) (k l : Fin 7) : costN (letN r i k) (letN r i l) = costF k l := by
  rw [← low_cost r i k l]
  unfold costN subCost
  rw [lower_letN, lower_letN]
  simp only [mk_one_eq_iff]
theorem far_N (odd : Bool) (turned : Fin 4) (r : Fin 26) (i : Fin 12) (x y : Fin 8) (d : Fin 3) :
    levG costN ((textF odd turned x).map (letN r i)) ((textF odd turned y).map (letN r i)) (((x.val ^^^ y.val : Nat) : Int) + ((d.val : Int) - 1)) = ((x.val ^^^ y.val : Nat) : Int) := by
  rw [lev_map (let_inj r i) (cost_letN r i)]
  exact far_F odd turned x y d

end

/-! text: plain2 -/
section
/-! ## plain law 2: the products by distance and the transform -/
noncomputable def prodG (rows : List Int) (x y : Nat) : Int := if x = y then rows.getD x 0 * rows.getD (8 + y) 0 else rows.getD x 0 * rows.getD (8 + y) 0 + rows.getD y 0 * rows.getD (8 + x) 0
noncomputable def innerG (rows : List Int) (x : Nat) : Nat → Nat → List Int → List Int
  | 0, _, t => t
  | n + 1, y, t => innerG rows x n (y + 1) (t.set (x ^^^ y) (t.getD (x ^^^ y) 0 + prodG rows x y))
noncomputable def outerG (rows : List Int) : Nat → Nat → List Int → List Int
  | 0, _, t => t
  | n + 1, x, t => outerG rows n (x + 1) (innerG rows x (8 - x) x t)
theorem tail8 (a0 a1 a2 a3 a4 a5 a6 a7 : Int) : tailW 0 [a0, a1, a2, a3, a4, a5, a6, a7] = [(((a0 + a1) + (a2 + a3)) + ((a4 + a5) + (a6 + a7))), (((a0 - a1) + (a2 - a3)) + ((a4 - a5) + (a6 - a7))), (((a0 + a1) - (a2 + a3)) + ((a4 + a5) - (a6 + a7))), (((a0 - a1) - (a2 - a3)) + ((a4 - a5) - (a6 - a7))), (((a0 + a1) + (a2 + a3)) - ((a4 + a5) + (a6 + a7))), (((a0 - a1) + (a2 - a3)) - ((a4 - a5) + (a6 - a7))), (((a0 + a1) - (a2 + a3)) - ((a4 + a5) - (a6 + a7))), (((a0 - a1) - (a2 - a3)) - ((a4 - a5) - (a6 - a7)))] := by kernel_rfl
theorem table8 (a0 a1 a2 a3 a4 a5 a6 a7 b0 b1 b2 b3 b4 b5 b6 b7 : Int) : outerG [a0, a1, a2, a3, a4, a5, a6, a7, b0, b1, b2, b3, b4, b5, b6, b7] 8 0 [0, 0, 0, 0, 0, 0, 0, 0] = [((((((((0 + a0 * b0) + a1 * b1) + a2 * b2) + a3 * b3) + a4 * b4) + a5 * b5) + a6 * b6) + a7 * b7), ((((0 + (a0 * b1 + a1 * b0)) + (a2 * b3 + a3 * b2)) + (a4 * b5 + a5 * b4)) + (a6 * b7 + a7 * b6)), ((((0 + (a0 * b2 + a2 * b0)) + (a1 * b3 + a3 * b1)) + (a4 * b6 + a6 * b4)) + (a5 * b7 + a7 * b5)), ((((0 + (a0 * b3 + a3 * b0)) + (a1 * b2 + a2 * b1)) + (a4 * b7 + a7 * b4)) + (a5 * b6 + a6 * b5)), ((((0 + (a0 * b4 + a4 * b0)) + (a1 * b5 + a5 * b1)) + (a2 * b6 + a6 * b2)) + (a3 * b7 + a7 * b3)), ((((0 + (a0 * b5 + a5 * b0)) + (a1 * b4 + a4 * b1)) + (a2 * b7 + a7 * b2)) + (a3 * b6 + a6 * b3)), ((((0 + (a0 * b6 + a6 * b0)) + (a1 * b7 + a7 * b1)) + (a2 * b4 + a4 * b2)) + (a3 * b5 + a5 * b3)), ((((0 + (a0 * b7 + a7 * b0)) + (a1 * b6 + a6 * b1)) + (a2 * b5 + a5 * b2)) + (a3 * b4 + a4 * b3))] := by kernel_rfl
theorem coord0 (a0 a1 a2 a3 a4 a5 a6 a7 b0 b1 b2 b3 b4 b5 b6 b7 : Int) : ((((((((0 + a0 * b0) + a1 * b1) + a2 * b2) + a3 * b3) + a4 * b4) + a5 * b5) + a6 * b6) + a7 * b7) * 8 = (((((((a0 + a1) + (a2 + a3)) + ((a4 + a5) + (a6 + a7))) * (((b0 + b1) + (b2 + b3)) + ((b4 + b5) + (b6 + b7)))) + ((((a0 - a1) + (a2 - a3)) + ((a4 - a5) + (a6 - a7))) * (((b0 - b1) + (b2 - b3)) + ((b4 - b5) + (b6 - b7))))) + (((((a0 + a1) - (a2 + a3)) + ((a4 + a5) - (a6 + a7))) * (((b0 + b1) - (b2 + b3)) + ((b4 + b5) - (b6 + b7)))) + ((((a0 - a1) - (a2 - a3)) + ((a4 - a5) - (a6 - a7))) * (((b0 - b1) - (b2 - b3)) + ((b4 - b5) - (b6 - b7)))))) + ((((((a0 + a1) + (a2 + a3)) - ((a4 + a5) + (a6 + a7))) * (((b0 + b1) + (b2 + b3)) - ((b4 + b5) + (b6 + b7)))) + ((((a0 - a1) + (a2 - a3)) - ((a4 - a5) + (a6 - a7))) * (((b0 - b1) + (b2 - b3)) - ((b4 - b5) + (b6 - b7))))) + (((((a0 + a1) - (a2 + a3)) - ((a4 + a5) - (a6 + a7))) * (((b0 + b1) - (b2 + b3)) - ((b4 + b5) - (b6 + b7)))) + ((((a0 - a1) - (a2 - a3)) - ((a4 - a5) - (a6 - a7))) * (((b0 - b1) - (b2 - b3)) - ((b4 - b5) - (b6 - b7))))))) := by grind
theorem coord1 (a0 a1 a2 a3 a4 a5 a6 a7 b0 b1 b2 b3 b4 b5 b6 b7 : Int) : ((((0 + (a0 * b1 + a1 * b0)) + (a2 * b3 + a3 * b2)) + (a4 * b5 + a5 * b4)) + (a6 * b7 + a7 * b6)) * 8 = (((((((a0 + a1) + (a2 + a3)) + ((a4 + a5) + (a6 + a7))) * (((b0 + b1) + (b2 + b3)) + ((b4 + b5) + (b6 + b7)))) - ((((a0 - a1) + (a2 - a3)) + ((a4 - a5) + (a6 - a7))) * (((b0 - b1) + (b2 - b3)) + ((b4 - b5) + (b6 - b7))))) + (((((a0 + a1) - (a2 + a3)) + ((a4 + a5) - (a6 + a7))) * (((b0 + b1) - (b2 + b3)) + ((b4 + b5) - (b6 + b7)))) - ((((a0 - a1) - (a2 - a3)) + ((a4 - a5) - (a6 - a7))) * (((b0 - b1) - (b2 - b3)) + ((b4 - b5) - (b6 - b7)))))) + ((((((a0 + a1) + (a2 + a3)) - ((a4 + a5) + (a6 + a7))) * (((b0 + b1) + (b2 + b3)) - ((b4 + b5) + (b6 + b7)))) - ((((a0 - a1) + (a2 - a3)) - ((a4 - a5) + (a6 - a7))) * (((b0 - b1) + (b2 - b3)) - ((b4 - b5) + (b6 - b7))))) + (((((a0 + a1) - (a2 + a3)) - ((a4 + a5) - (a6 + a7))) * (((b0 + b1) - (b2 + b3)) - ((b4 + b5) - (b6 + b7)))) - ((((a0 - a1) - (a2 - a3)) - ((a4 - a5) - (a6 - a7))) * (((b0 - b1) - (b2 - b3)) - ((b4 - b5) - (b6 - b7))))))) := by grind
theorem coord2 (a0 a1 a2 a3 a4 a5 a6 a7 b0 b1 b2 b3 b4 b5 b6 b7 : Int) : ((((0 + (a0 * b2 + a2 * b0)) + (a1 * b3 + a3 * b1)) + (a4 * b6 + a6 * b4)) + (a5 * b7 + a7 * b5)) * 8 = (((((((a0 + a1) + (a2 + a3)) + ((a4 + a5) + (a6 + a7))) * (((b0 + b1) + (b2 + b3)) + ((b4 + b5) + (b6 + b7)))) + ((((a0 - a1) + (a2 - a3)) + ((a4 - a5) + (a6 - a7))) * (((b0 - b1) + (b2 - b3)) + ((b4 - b5) + (b6 - b7))))) - (((((a0 + a1) - (a2 + a3)) + ((a4 + a5) - (a6 + a7))) * (((b0 + b1) - (b2 + b3)) + ((b4 + b5) - (b6 + b7)))) + ((((a0 - a1) - (a2 - a3)) + ((a4 - a5) - (a6 - a7))) * (((b0 - b1) - (b2 - b3)) + ((b4 - b5) - (b6 - b7)))))) + ((((((a0 + a1) + (a2 + a3)) - ((a4 + a5) + (a6 + a7))) * (((b0 + b1) + (b2 + b3)) - ((b4 + b5) + (b6 + b7)))) + ((((a0 - a1) + (a2 - a3)) - ((a4 - a5) + (a6 - a7))) * (((b0 - b1) + (b2 - b3)) - ((b4 - b5) + (b6 - b7))))) - (((((a0 + a1) - (a2 + a3)) - ((a4 + a5) - (a6 + a7))) * (((b0 + b1) - (b2 + b3)) - ((b4 + b5) - (b6 + b7)))) + ((((a0 - a1) - (a2 - a3)) - ((a4 - a5) - (a6 - a7))) * (((b0 - b1) - (b2 - b3)) - ((b4 - b5) - (b6 - b7))))))) := by grind
theorem coord3 (a0 a1 a2 a3 a4 a5 a6 a7 b0 b1 b2 b3 b4 b5 b6 b7 : Int) : ((((0 + (a0 * b3 + a3 * b0)) + (a1 * b2 + a2 * b1)) + (a4 * b7 + a7 * b4)) + (a5 * b6 + a6 * b5)) * 8 = (((((((a0 + a1) + (a2 + a3)) + ((a4 + a5) + (a6 + a7))) * (((b0 + b1) + (b2 + b3)) + ((b4 + b5) + (b6 + b7)))) - ((((a0 - a1) + (a2 - a3)) + ((a4 - a5) + (a6 - a7))) * (((b0 - b1) + (b2 - b3)) + ((b4 - b5) + (b6 - b7))))) - (((((a0 + a1) - (a2 + a3)) + ((a4 + a5) - (a6 + a7))) * (((b0 + b1) - (b2 + b3)) + ((b4 + b5) - (b6 + b7)))) - ((((a0 - a1) - (a2 - a3)) + ((a4 - a5) - (a6 - a7))) * (((b0 - b1) - (b2 - b3)) + ((b4 - b5) - (b6 - b7)))))) + ((((((a0 + a1) + (a2 + a3)) - ((a4 + a5) + (a6 + a7))) * (((b0 + b1) + (b2 + b3)) - ((b4 + b5) + (b6 + b7)))) - ((((a0 - a1) + (a2 - a3)) - ((a4 - a5) + (a6 - a7))) * (((b0 - b1) + (b2 - b3)) - ((b4 - b5) + (b6 - b7))))) - (((((a0 + a1) - (a2 + a3)) - ((a4 + a5) - (a6 + a7))) * (((b0 + b1) - (b2 + b3)) - ((b4 + b5) - (b6 + b7)))) - ((((a0 - a1) - (a2 - a3)) - ((a4 - a5) - (a6 - a7))) * (((b0 - b1) - (b2 - b3)) - ((b4 - b5) - (b6 - b7))))))) := by grind
theorem coord4 (a0 a1 a2 a3 a4 a5 a6 a7 b0 b1 b2 b3 b4 b5 b6 b7 : Int) : ((((0 + (a0 * b4 + a4 * b0)) + (a1 * b5 + a5 * b1)) + (a2 * b6 + a6 * b2)) + (a3 * b7 + a7 * b3)) * 8 = (((((((a0 + a1) + (a2 + a3)) + ((a4 + a5) + (a6 + a7))) * (((b0 + b1) + (b2 + b3)) + ((b4 + b5) + (b6 + b7)))) + ((((a0 - a1) + (a2 - a3)) + ((a4 - a5) + (a6 - a7))) * (((b0 - b1) + (b2 - b3)) + ((b4 - b5) + (b6 - b7))))) + (((((a0 + a1) - (a2 + a3)) + ((a4 + a5) - (a6 + a7))) * (((b0 + b1) - (b2 + b3)) + ((b4 + b5) - (b6 + b7)))) + ((((a0 - a1) - (a2 - a3)) + ((a4 - a5) - (a6 - a7))) * (((b0 - b1) - (b2 - b3)) + ((b4 - b5) - (b6 - b7)))))) - ((((((a0 + a1) + (a2 + a3)) - ((a4 + a5) + (a6 + a7))) * (((b0 + b1) + (b2 + b3)) - ((b4 + b5) + (b6 + b7)))) + ((((a0 - a1) + (a2 - a3)) - ((a4 - a5) + (a6 - a7))) * (((b0 - b1) + (b2 - b3)) - ((b4 - b5) + (b6 - b7))))) + (((((a0 + a1) - (a2 + a3)) - ((a4 + a5) - (a6 + a7))) * (((b0 + b1) - (b2 + b3)) - ((b4 + b5) - (b6 + b7)))) + ((((a0 - a1) - (a2 - a3)) - ((a4 - a5) - (a6 - a7))) * (((b0 - b1) - (b2 - b3)) - ((b4 - b5) - (b6 - b7))))))) := by grind
theorem coord5 (a0 a1 a2 a3 a4 a5 a6 a7 b0 b1 b2 b3 b4 b5 b6 b7 : Int) : ((((0 + (a0 * b5 + a5 * b0)) + (a1 * b4 + a4 * b1)) + (a2 * b7 + a7 * b2)) + (a3 * b6 + a6 * b3)) * 8 = (((((((a0 + a1) + (a2 + a3)) + ((a4 + a5) + (a6 + a7))) * (((b0 + b1) + (b2 + b3)) + ((b4 + b5) + (b6 + b7)))) - ((((a0 - a1) + (a2 - a3)) + ((a4 - a5) + (a6 - a7))) * (((b0 - b1) + (b2 - b3)) + ((b4 - b5) + (b6 - b7))))) + (((((a0 + a1) - (a2 + a3)) + ((a4 + a5) - (a6 + a7))) * (((b0 + b1) - (b2 + b3)) + ((b4 + b5) - (b6 + b7)))) - ((((a0 - a1) - (a2 - a3)) + ((a4 - a5) - (a6 - a7))) * (((b0 - b1) - (b2 - b3)) + ((b4 - b5) - (b6 - b7)))))) - ((((((a0 + a1) + (a2 + a3)) - ((a4 + a5) + (a6 + a7))) * (((b0 + b1) + (b2 + b3)) - ((b4 + b5) + (b6 + b7)))) - ((((a0 - a1) + (a2 - a3)) - ((a4 - a5) + (a6 - a7))) * (((b0 - b1) + (b2 - b3)) - ((b4 - b5) + (b6 - b7))))) + (((((a0 + a1) - (a2 + a3)) - ((a4 + a5) - (a6 + a7))) * (((b0 + b1) - (b2 + b3)) - ((b4 + b5) - (b6 + b7)))) - ((((a0 - a1) - (a2 - a3)) - ((a4 - a5) - (a6 - a7))) * (((b0 - b1) - (b2 - b3)) - ((b4 - b5) - (b6 - b7))))))) := by grind
theorem coord6 (a0 a1 a2 a3 a4 a5 a6 a7 b0 b1 b2 b3 b4 b5 b6 b7 : Int) : ((((0 + (a0 * b6 + a6 * b0)) + (a1 * b7 + a7 * b1)) + (a2 * b4 + a4 * b2)) + (a3 * b5 + a5 * b3)) * 8 = (((((((a0 + a1) + (a2 + a3)) + ((a4 + a5) + (a6 + a7))) * (((b0 + b1) + (b2 + b3)) + ((b4 + b5) + (b6 + b7)))) + ((((a0 - a1) + (a2 - a3)) + ((a4 - a5) + (a6 - a7))) * (((b0 - b1) + (b2 - b3)) + ((b4 - b5) + (b6 - b7))))) - (((((a0 + a1) - (a2 + a3)) + ((a4 + a5) - (a6 + a7))) * (((b0 + b1) - (b2 + b3)) + ((b4 + b5) - (b6 + b7)))) + ((((a0 - a1) - (a2 - a3)) + ((a4 - a5) - (a6 - a7))) * (((b0 - b1) - (b2 - b3)) + ((b4 - b5) - (b6 - b7)))))) - ((((((a0 + a1) + (a2 + a3)) - ((a4 + a5) + (a6 + a7))) * (((b0 + b1) + (b2 + b3)) - ((b4 + b5) + (b6 + b7)))) + ((((a0 - a1) + (a2 - a3)) - ((a4 - a5) + (a6 - a7))) * (((b0 - b1) + (b2 - b3)) - ((b4 - b5) + (b6 - b7))))) - (((((a0 + a1) - (a2 + a3)) - ((a4 + a5) - (a6 + a7))) * (((b0 + b1) - (b2 + b3)) - ((b4 + b5) - (b6 + b7)))) + ((((a0 - a1) - (a2 - a3)) - ((a4 - a5) - (a6 - a7))) * (((b0 - b1) - (b2 - b3)) - ((b4 - b5) - (b6 - b7))))))) := by grind
theorem coord7 (a0 a1 a2 a3 a4 a5 a6 a7 b0 b1 b2 b3 b4 b5 b6 b7 : Int) : ((((0 + (a0 * b7 + a7 * b0)) + (a1 * b6 + a6 * b1)) + (a2 * b5 + a5 * b2)) + (a3 * b4 + a4 * b3)) * 8 = (((((((a0 + a1) + (a2 + a3)) + ((a4 + a5) + (a6 + a7))) * (((b0 + b1) + (b2 + b3)) + ((b4 + b5) + (b6 + b7)))) - ((((a0 - a1) + (a2 - a3)) + ((a4 - a5) + (a6 - a7))) * (((b0 - b1) + (b2 - b3)) + ((b4 - b5) + (b6 - b7))))) - (((((a0 + a1) - (a2 + a3)) + ((a4 + a5) - (a6 + a7))) * (((b0 + b1) - (b2 + b3)) + ((b4 + b5) - (b6 + b7)))) - ((((a0 - a1) - (a2 - a3)) + ((a4 - a5) - (a6 - a7))) * (((b0 - b1) - (b2 - b3)) + ((b4 - b5) - (b6 - b7)))))) - ((((((a0 + a1) + (a2 + a3)) - ((a4 + a5) + (a6 + a7))) * (((b0 + b1) + (b2 + b3)) - ((b4 + b5) + (b6 + b7)))) - ((((a0 - a1) + (a2 - a3)) - ((a4 - a5) + (a6 - a7))) * (((b0 - b1) + (b2 - b3)) - ((b4 - b5) + (b6 - b7))))) - (((((a0 + a1) - (a2 + a3)) - ((a4 + a5) - (a6 + a7))) * (((b0 + b1) - (b2 + b3)) - ((b4 + b5) - (b6 + b7)))) - ((((a0 - a1) - (a2 - a3)) - ((a4 - a5) - (a6 - a7))) * (((b0 - b1) - (b2 - b3)) - ((b4 - b5) - (b6 - b7))))))) := by grind
theorem table_ok (a0 a1 a2 a3 a4 a5 a6 a7 b0 b1 b2 b3 b4 b5 b6 b7 : Int) : (outerG [a0, a1, a2, a3, a4, a5, a6, a7, b0, b1, b2, b3, b4, b5, b6, b7] 8 0 [0, 0, 0, 0, 0, 0, 0, 0]).map (· * 8) = tailW 0 (List.zipWith (· * ·) (tailW 0 [a0, a1, a2, a3, a4, a5, a6, a7]) (tailW 0 [b0, b1, b2, b3, b4, b5, b6, b7])) := by
  rw [table8, tail8, tail8]
  show [((((((((0 + a0 * b0) + a1 * b1) + a2 * b2) + a3 * b3) + a4 * b4) + a5 * b5) + a6 * b6) + a7 * b7) * 8, ((((0 + (a0 * b1 + a1 * b0)) + (a2 * b3 + a3 * b2)) + (a4 * b5 + a5 * b4)) + (a6 * b7 + a7 * b6)) * 8, ((((0 + (a0 * b2 + a2 * b0)) + (a1 * b3 + a3 * b1)) + (a4 * b6 + a6 * b4)) + (a5 * b7 + a7 * b5)) * 8, ((((0 + (a0 * b3 + a3 * b0)) + (a1 * b2 + a2 * b1)) + (a4 * b7 + a7 * b4)) + (a5 * b6 + a6 * b5)) * 8, ((((0 + (a0 * b4 + a4 * b0)) + (a1 * b5 + a5 * b1)) + (a2 * b6 + a6 * b2)) + (a3 * b7 + a7 * b3)) * 8, ((((0 + (a0 * b5 + a5 * b0)) + (a1 * b4 + a4 * b1)) + (a2 * b7 + a7 * b2)) + (a3 * b6 + a6 * b3)) * 8, ((((0 + (a0 * b6 + a6 * b0)) + (a1 * b7 + a7 * b1)) + (a2 * b4 + a4 * b2)) + (a3 * b5 + a5 * b3)) * 8, ((((0 + (a0 * b7 + a7 * b0)) + (a1 * b6 + a6 * b1)) + (a2 * b5 + a5 * b2)) + (a3 * b4 + a4 * b3)) * 8] = tailW 0 [(((a0 + a1) + (a2 + a3)) + ((a4 + a5) + (a6 + a7))) * (((b0 + b1) + (b2 + b3)) + ((b4 + b5) + (b6 + b7))), (((a0 - a1) + (a2 - a3)) + ((a4 - a5) + (a6 - a7))) * (((b0 - b1) + (b2 - b3)) + ((b4 - b5) + (b6 - b7))), (((a0 + a1) - (a2 + a3)) + ((a4 + a5) - (a6 + a7))) * (((b0 + b1) - (b2 + b3)) + ((b4 + b5) - (b6 + b7))), (((a0 - a1) - (a2 - a3)) + ((a4 - a5) - (a6 - a7))) * (((b0 - b1) - (b2 - b3)) + ((b4 - b5) - (b6 - b7))), (((a0 + a1) + (a2 + a3)) - ((a4 + a5) + (a6 + a7))) * (((b0 + b1) + (b2 + b3)) - ((b4 + b5) + (b6 + b7))), (((a0 - a1) + (a2 - a3)) - ((a4 - a5) + (a6 - a7))) * (((b0 - b1) + (b2 - b3)) - ((b4 - b5) + (b6 - b7))), (((a0 + a1) - (a2 + a3)) - ((a4 + a5) - (a6 + a7))) * (((b0 + b1) - (b2 + b3)) - ((b4 + b5) - (b6 + b7))), (((a0 - a1) - (a2 - a3)) - ((a4 - a5) - (a6 - a7))) * (((b0 - b1) - (b2 - b3)) - ((b4 - b5) - (b6 - b7)))]
  rw [tail8, coord0, coord1, coord2, coord3, coord4, coord5, coord6, coord7]

end

/-! text: loopt -/
section
/-! ## a for that keeps count of the tokens -/
section
variable {prog : Program} {w : World} {A : Around} {E : Value → Shared → Prop} {Q : Flow → Shared → Prop} {s : Shared} {env : Env} {g : Heap} {σ : Type}
noncomputable def LoopC (prog : Program) (w : World) (A : Around) (env : Env) (x : Str) (px : Pos) (body orelse : List Stmt) (Q : Flow → Shared → Prop) (E : Value → Shared → Prop) (it : Value) (s₂ : Shared) : Prop :=
  codeAny (model prog w) A (.forLoop (.Name x px) it body orelse env) (fun r s' => match r with | .ok f => Q f s' | .error e => cameBackBy (model prog w) A env E e s') s₂
theorem For_C {x : Str} {px pos : Pos} {iter : Expr} {body orelse : List Stmt}
    (h : wpAny (model prog w) A (eval iter env) (fun xv s₁ => wpAny (model prog w) A (pyIter xv) (fun it s₂ => LoopC prog w A env x px body orelse Q E it s₂) E s₁) E s)
    (hs : ∀ x, foldedSetIterable iter env x = pure x := by intro _; rfl) :
    wpAny (model prog w) A (exec (.For (.Name x px) iter body orelse pos) env) Q E s :=
  wpAny_For (wpAny_mono h (fun _ _ h₁ => wpAny_mono h₁ (fun _ _ h₂ => h₂) fun _ _ e => e) fun _ _ e => e) hs
theorem For_CT {x : Str} {px pos : Pos} {iter : Expr} {body orelse : List Stmt} (T : Nat) (hT : T ≤ s.toks)
    (h : wpAny (model prog w) A (eval iter env) (fun xv s₁ => T ≤ s₁.toks → wpAny (model prog w) A (pyIter xv) (fun it s₂ => LoopC prog w A env x px body orelse Q E it s₂) E s₁) E s)
    (hs : ∀ x, foldedSetIterable iter env x = pure x := by intro _; rfl) :
    wpAny (model prog w) A (exec (.For (.Name x px) iter body orelse pos) env) Q E s := For_C (wpAny_with_toks hT (wpAny_mono h (fun _ _ q => q) fun _ _ e _ => e)) hs
theorem walk_cutT {x : Str} {px : Pos} {body orelse : List Stmt} {I : Addr} {fp wr : List Addr} {n : Nat} {R : Nat → Value → Prop} {St : Nat → Heap → Prop} {m₀ : Str → Option Value} (T : Nat) (Led : σ → List (Addr × Obj)) (ps : σ → List (Str × Value)) (P : Nat → σ → Prop) (c₀ : σ)
    (hT : T ≤ s.toks) (hx : env.kindOf x = some .local) (hpk : (env.scope.kind == .class || (env.scope.kind == .module && env.locals != env.globals)) = false)
    (W : Walks prog w A I fp wr n R St) (hLf : env.locals ∉ fp) (hwr : ∀ b ∈ wr, g.get? b = none) (hnw : ∀ p ∈ Led c₀, p.1 ∉ wr) (hfp : ∀ q ∈ Led c₀, q.1 ∉ fp) (hst : St 0 s.heap)
    (F : Fr g env.locals s.heap m₀) (N : News g env.locals s.heap (Led c₀)) (hk : EnvHas m₀ (ps c₀)) (hadr : ∀ c, (Led c).map (·.1) = (Led c₀).map (·.1)) (hp : P 0 c₀)
    (turn : ∀ (i : Nat) v c u h tk own, i < n → T ≤ tk → R i v → P i c → OwnOff own ((Led c₀).map (·.1)) → Fr g env.locals h (kstB u ((x, v) :: ps c)) → News g env.locals h (Led c ++ own) →
      wpAny (model prog w) A (execs body env) (WPost Q (Cut g env.locals { s with heap := h, toks := tk } (fun c' => Led c' ++ own) ps (P (i + 1)))) E { s with heap := h, toks := tk })
    (done : ∀ c u h tk, T ≤ tk → P n c → Fr g env.locals h (kstB u (ps c)) → News g env.locals h (Led c) → wpAny (model prog w) A (execs orelse env) Q E { s with heap := h, toks := tk })
    (hE : PassesOwn (model prog w) A env E := by passes_own) :
    LoopC prog w A env x px body orelse Q E (.ref I) s := by
  have hLw : env.locals ∉ wr := fun h => hLf (W.sub _ h)
  have old : ∀ b o, g.get? b = some o → b ∉ wr := fun b o e hb => by rw [hwr b hb] at e; cases e
  have hmem : ∀ c (p : Addr × Obj), p ∈ Led c → ∃ q ∈ Led c₀, q.1 = p.1 := fun c p hp' => by
    have h1 : p.1 ∈ (Led c).map (·.1) := List.mem_map.mpr ⟨p, hp', rfl⟩
    rw [hadr c] at h1
    exact List.mem_map.mp h1
  have hnwc : ∀ c (p : Addr × Obj), p ∈ Led c → p.1 ∉ wr := fun c p hp' => by
    obtain ⟨q, hq, e⟩ := hmem c p hp'
    rw [← e]; exact hnw q hq
  unfold LoopC
  refine codeAny_forLoop
    (fun k s' => ∃ h' tk m' c i, s' = { s with heap := h', toks := tk } ∧ T ≤ tk ∧ St i h' ∧ Fr g env.locals h' m' ∧ News g env.locals h' (Led c) ∧ (EnvHas m' (ps c)) ∧ P i c ∧ i ≤ n ∧ k = n + 1 - i) ?_ (n + 1)
    ⟨s.heap, s.toks, m₀, c₀, 0, rfl, hT, hst, F, N, hk, hp, Nat.zero_le _, rfl⟩
  rintro k s' ⟨h', tk, m', c, i, rfl, htk, hst', F', N', hk', hp', hi, rfl⟩
  have next : ∀ h₁ : Heap, (∀ b o, b ∉ wr → h'.get? b = some o → h₁.get? b = some o) → Fr g env.locals h₁ m' ∧ News g env.locals h₁ (Led c) := fun h₁ hk₁ =>
    ⟨⟨F'.ns.at' fun o e => hk₁ _ o hLw e, fun b o e => hk₁ b o (old b o e) (F'.keep b o e), F'.above⟩, fun p hp => ⟨hk₁ _ _ (hnwc c p hp) (N' p hp).1, (N' p hp).2⟩⟩
  by_cases hlt : i < n
  · refine wpAny_with_toks (n := T) htk (W.item i _ _ _ hlt hst' fun v h₁ tk₁ hP hst₁ hk₁ htk₁ => ?_)
    obtain ⟨F₁, N₁⟩ := next h₁ hk₁
    refine wpAny_assign_Name (wpAny_storeName_local hx F₁.ns (fun h₂ hn₂ hs₂ => ?_) hpk)
    have F₂ := F₁.set hn₂ hs₂
    have Nown : News g env.locals h₂ (ownOf g fp h₂) := news_ownOf hLf
    have hsep : OwnOff (ownOf g fp h₂) ((Led c₀).map (·.1)) := by
      intro p hp b hb e
      obtain ⟨q, hq, rfl⟩ := List.mem_map.mp hb
      exact hfp q hq (e ▸ ownOf_sub p hp)
    have F₃ : Fr g env.locals h₂ (kstB m' ((x, v) :: ps c)) := by
      have e : kstB m' ((x, v) :: ps c) = fun y => if y = x then some v else m' y := by
        funext y
        show (if y = x then _ else kstB m' (ps c) y) = _
        by_cases hy : y = x
        · rw [if_pos hy, if_pos hy]
        · rw [if_neg hy, if_neg hy]
          exact kstB_eq hk' fun _ => rfl
      rw [e]; exact F₂
    have hst₂ : St (i + 1) h₂ := W.frame _ _ _ hst₁ fun b hb o e => (hs₂.2 b fun q => hLf (q ▸ hb)).trans e
    refine wpAny_mono (wpAny_toks_of (n := T) (Nat.le_succ_of_le htk₁) (wpAny_passesOwn hE (turn i v c m' h₂ _ (ownOf g fp h₂) hlt (Nat.le_succ_of_le htk₁) hP hp' hsep F₃ ((N₁.set hs₂).append Nown)))) (fun f s₃ h₃ => ?_) fun _ _ e => e.2
    obtain ⟨htk₃, h₃⟩ := h₃
    have fin : Cut g env.locals { s with heap := h₂, toks := tk₁ + 1 } (fun c' => Led c' ++ ownOf g fp h₂) ps (P (i + 1)) s₃ → ∃ m, m < n + 1 - i ∧ ∃ h' tk m' c i, s₃ = { s with heap := h', toks := tk } ∧ T ≤ tk ∧ St i h' ∧ Fr g env.locals h' m' ∧ News g env.locals h' (Led c) ∧ (EnvHas m' (ps c)) ∧ P i c ∧ i ≤ n ∧ m = n + 1 - i := by
      rintro ⟨c₃, h₃', tk₃, m₃, news₃, rfl, F₃, N₃, hn₃, hk₃, hp₃⟩
      refine ⟨n + 1 - (i + 1), by omega, h₃', tk₃, m₃, c₃, i + 1, rfl, htk₃, ?_, F₃, fun p hp => N₃ p (hn₃ p (List.mem_append_left _ hp)), hk₃, hp₃, hlt, rfl⟩
      refine W.frame _ _ _ hst₁ fun b hb o e => ?_
      have e₂ : h₂.get? b = some o := (hs₂.2 b fun q => hLf (q ▸ hb)).trans e
      cases hn : g.get? b with
      | some o₀ =>
        have : o₀ = o := by have := F₂.keep b o₀ hn; rw [e₂] at this; exact (Option.some.inj this).symm
        exact this ▸ F₃.keep b o₀ hn
      | none => exact (N₃ _ (hn₃ _ (List.mem_append_right _ (mem_ownOf hb hn e₂)))).1
    cases f with
    | ret v => exact h₃
    | brk => exact h₃
    | cont => exact fin h₃
    | next => exact fin h₃
  · have hin : i = n := by omega
    subst hin
    refine wpAny_with_toks (n := T) htk (W.done _ _ _ hst' fun h₁ tk₁ hk₁ htk₁ => ?_)
    obtain ⟨F₁, N₁⟩ := next h₁ hk₁
    exact wpAny_passesOwn hE (done c m' h₁ tk₁ htk₁ hp' (fr_kst _ F₁ hk') N₁)
end
section
variable {prog : Program} {w : World} {A : Around} {E : Value → Shared → Prop} {Q : Flow → Shared → Prop} {s : Shared} {env : Env} {g : Heap} {σ : Type}
theorem range_cutT {x : Str} {px : Pos} {body orelse : List Stmt} {r : Addr} {a₀ b₀ : Int} {t₀ u₀ v₀ : Tok} {n : Nat} {m₀ : Str → Option Value} {news₀ : List (Addr × Obj)} (T : Nat) (Led : σ → List (Addr × Obj)) (ps : σ → List (Str × Value)) (P : Nat → σ → Prop) (c₀ : σ)
    (hT : T ≤ s.toks) (hx : env.kindOf x = some .local) (hpk : (env.scope.kind == .class || (env.scope.kind == .module && env.locals != env.globals)) = false)
    (hh : A.handled = none) (hr : IsRange s.heap r a₀ b₀ 1 t₀ u₀ v₀) (hsmall : Builtin.Range.small a₀ b₀ 1 = true) (hsize : Builtin.Range.rangeSize a₀ b₀ 1 = (n : Int))
    (F : Fr g env.locals s.heap m₀) (N : News g env.locals s.heap news₀) (hn : ∀ p ∈ Led c₀, p ∈ news₀) (hk : EnvHas m₀ (ps c₀)) (hadr : ∀ c, (Led c).map (·.1) = (Led c₀).map (·.1)) (hp : P 0 c₀)
    (turn : ∀ (i : Nat) c u h tk t own, i < n → T ≤ tk → P i c → OwnOff own ((Led c₀).map (·.1)) → Fr g env.locals h (kstB u ((x, .int (a₀ + i) t) :: ps c)) → News g env.locals h (Led c ++ own) →
      wpAny (model prog w) A (execs body env) (WPost Q (Cut g env.locals { s with heap := h, toks := tk } (fun c' => Led c' ++ own) ps (P (i + 1)))) E { s with heap := h, toks := tk })
    (done : ∀ c u h tk, T ≤ tk → P n c → Fr g env.locals h (kstB u (ps c)) → News g env.locals h (Led c) → wpAny (model prog w) A (execs orelse env) Q E { s with heap := h, toks := tk })
    (hE : PassesOwn (model prog w) A env E := by passes_own) :
    wpAny (model prog w) A (pyIter (.ref r)) (fun it s₂ => LoopC prog w A env x px body orelse Q E it s₂) E s := by
  refine wpAny_pyIter_range hr hsmall ?_
  have W : Walks prog w A s.heap.objs.size [s.heap.objs.size] [s.heap.objs.size] n (fun i v => i < n ∧ ∃ t, v = .int (a₀ + i * 1) t)
      (fun i h => IsRangeIter h s.heap.objs.size (a₀ + (i : Nat) * 1) ((n : Int) - (i : Nat)) 1) := (Walks.range hh _ a₀ 1 n).bound
  have N0 : News g env.locals s.heap (Led c₀) := fun p hp => N p (hn p hp)
  refine walk_cutT T Led ps P c₀ hT hx hpk W ?_ ?_ ?_ ?_ (by show IsRangeIter _ _ _ _ _; rw [hsize]; simpa using Heap.get?_push_size _ rfl) (F.push _) (fun p hp => ⟨Heap.get?_push_of_some _ (N0 p hp).1, (N0 p hp).2⟩) hk hadr hp ?_ done hE
  · intro hm
    exact absurd F.ns.lt ((List.mem_singleton.mp hm) ▸ Nat.lt_irrefl _)
  · intro b hb
    rw [List.mem_singleton.mp hb]
    exact next_is_new F
  · intro p hp hI
    exact absurd (Heap.lt_size (N0 p hp).1) ((List.mem_singleton.mp hI) ▸ Nat.lt_irrefl _)
  · intro p hp hI
    exact absurd (Heap.lt_size (N0 p hp).1) ((List.mem_singleton.mp hI) ▸ Nat.lt_irrefl _)
  · rintro i v c u h tk own hi htk ⟨_, t, rfl⟩ hp' hoff F₁ N₁
    have e1 : a₀ + (i : Int) * 1 = a₀ + (i : Int) := by omega
    rw [e1] at F₁
    exact turn i c u h tk t own hi htk hp' hoff F₁ N₁

theorem list_cutT {x : Str} {px : Pos} {body orelse : List Stmt} {ax : Addr} {vs : List Value} {k : Nat} {m₀ : Str → Option Value} {news₀ : List (Addr × Obj)} (T : Nat) (Led : σ → List (Addr × Obj)) (ps : σ → List (Str × Value)) (P : Nat → σ → Prop) (c₀ : σ)
    (hT : T ≤ s.toks) (hx : env.kindOf x = some .local) (hpk : (env.scope.kind == .class || (env.scope.kind == .module && env.locals != env.globals)) = false)
    (hh : A.handled = none) (F : Fr g env.locals s.heap m₀) (N : News g env.locals s.heap ((ax, listOf vs.toArray k) :: news₀)) (hn : ∀ p ∈ Led c₀, p ∈ news₀) (hax : ∀ p ∈ news₀, p.1 ≠ ax) (hk : EnvHas m₀ (ps c₀)) (hadr : ∀ c, (Led c).map (·.1) = (Led c₀).map (·.1)) (hp : P 0 c₀)
    (turn : ∀ (i : Nat) v c u h tk own, i < vs.length → T ≤ tk → vs[i]? = some v → P i c → OwnOff own ((Led c₀).map (·.1)) → Fr g env.locals h (kstB u ((x, v) :: ps c)) → News g env.locals h (Led c ++ own) →
      wpAny (model prog w) A (execs body env) (WPost Q (Cut g env.locals { s with heap := h, toks := tk } (fun c' => Led c' ++ own) ps (P (i + 1)))) E { s with heap := h, toks := tk })
    (done : ∀ c u h tk, T ≤ tk → P vs.length c → Fr g env.locals h (kstB u (ps c)) → News g env.locals h (Led c) → wpAny (model prog w) A (execs orelse env) Q E { s with heap := h, toks := tk })
    (hE : PassesOwn (model prog w) A env E := by passes_own) :
    wpAny (model prog w) A (pyIter (.ref ax)) (fun it s₂ => LoopC prog w A env x px body orelse Q E it s₂) E s := by
  have hx' := N _ (List.mem_cons_self ..)
  have hl : s.heap.IsList ax vs.toArray := ⟨_, hx'.1, rfl, k, rfl⟩
  have hlt : ax < s.heap.objs.size := Heap.lt_size hx'.1
  have N0 : News g env.locals s.heap (Led c₀) := fun p hp => N p (.tail _ (hn p hp))
  refine wpAny_pyIter_list hl ?_
  have W := Walks.list (prog := prog) (w := w) hh s.heap.objs.size ax (Nat.ne_of_lt hlt) vs.toArray
  have hlen : vs.toArray.size = vs.length := by simp
  rw [hlen] at W
  refine walk_cutT T Led ps P c₀ hT hx hpk W ?_ ?_ ?_ ?_ ⟨⟨_, Heap.get?_push_size _ rfl, rfl, rfl⟩, hl.at fun o e => Heap.get?_push_of_some _ e⟩ (F.push _) (fun p hp => ⟨Heap.get?_push_of_some _ (N0 p hp).1, (N0 p hp).2⟩) hk hadr hp ?_ done hE
  · intro hm
    rcases List.mem_cons.mp hm with e | hm
    · exact absurd F.ns.lt (e ▸ Nat.lt_irrefl _)
    · exact hx'.2.1 (List.mem_singleton.mp hm).symm
  · intro b hb
    rw [List.mem_singleton.mp hb]
    exact next_is_new F
  · intro p hp hI
    exact absurd (Heap.lt_size (N0 p hp).1) ((List.mem_singleton.mp hI) ▸ Nat.lt_irrefl _)
  · intro p hp hI
    rcases List.mem_cons.mp hI with e | hI
    · exact absurd (Heap.lt_size (N0 p hp).1) (e ▸ Nat.lt_irrefl _)
    · exact hax p (hn p hp) (List.mem_singleton.mp hI)
  · intro i v c u h tk own hi htk hR hp' hoff F₁ N₁
    exact turn i v c u h tk own hi htk (by simpa using hR) hp' hoff F₁ N₁
end

/-- a cut that keeps count of the tokens -/
theorem cut_atT {M : Model} {A : Around} {E : Value → Shared → Prop} {t : Sem Flow} {Q : Flow → Shared → Prop} {s : Shared} {σ : Type} {g : Heap} {L : Addr} (T : Nat) (hT : T ≤ s.toks) (Led : σ → List (Addr × Obj)) (ps : σ → List (Str × Value)) (P : σ → Prop)
    (h1 : wpAny M A t (CutPost Q (Cut g L s Led ps P)) E s) (h2 : ∀ c h' tk u, T ≤ tk → P c → Fr g L h' (kstB u (ps c)) → News g L h' (Led c) → Q .next { s with heap := h', toks := tk }) : wpAny M A t Q E s := by
  refine wpAny_with_toks hT (wpAny_mono h1 (fun f s' q htk => ?_) fun _ _ e _ => e)
  cases f with
  | next =>
    obtain ⟨c, h', tk, m', news', rfl, F, N, hn, hk, hp⟩ := q
    exact h2 c h' tk m' htk hp (fr_kst _ F hk) fun p hp' => N p (hn p hp')
  | brk => exact q
  | cont => exact q
  | ret v => exact q

end

/-! text: flag flagbits -/
section
/-- a def's contract that keeps count of the tokens -/
noncomputable def SpecT (w : World) (mean : ExcName → Option Value) (mg mb : Str → Option Value) (D T : Nat) (f : Addr) (vs : List Value) (news : List (Addr × Obj)) (Post : Value → List (Addr × Obj) → Prop) : Prop :=
  ∀ (dp un : Nat) (gd : Option (List Code)) (cn : Str) (cs : Scope) (a : Addr) (ccd : Value) (cl : List (Str × Addr)) (outer : List Env) (A₀ : Around) (base h₀ : Heap) (L : Addr) (m : Str → Option Value) (s : Shared) (Q E : Value → Shared → Prop),
    Below A₀ base outer h₀ → Fr h₀ L s.heap m → (hk.heap_1 w.params).In h₀ → News h₀ L s.heap news → Top hd.view_286 Ls mean mg mb h₀ → cs.kind = .function →
    dp + D < recursionLimit → un + 8 * D < cLine → T ≤ s.toks →
    (∀ r h' tk' news', T ≤ tk' → Fr h₀ L h' m → News h₀ L h' news' → Post r news' → Q r { s with heap := h', toks := tk' }) →
    wpAny (model (OpenLaw.row PySem.Challenge.rw_wj0018_01).prog w) (ktrTop dp un gd cn cs L a ccd cl outer) (call (.ref f) vs) Q E s
/-! ## the names of the flags -/
noncomputable def flagKvs : List (Int × Value) := [(1, .str "OPTIMIZED" 226), (2, .str "NEWLOCALS" 228), (4, .str "VARARGS" 230), (8, .str "VARKEYWORDS" 232), (16, .str "NESTED" 234), (32, .str "GENERATOR" 236), (64, .str "NOFREE" 238), (128, .str "COROUTINE" 240), (256, .str "ITERABLE_COROUTINE" 242), (512, .str "ASYNC_GENERATOR" 244)]
noncomputable def flagEs : Array DictEntry := #[{ hash := 1, key := .int 1 225, val := .str "OPTIMIZED" 226 }, { hash := 2, key := .int 2 227, val := .str "NEWLOCALS" 228 }, { hash := 4, key := .int 4 229, val := .str "VARARGS" 230 }, { hash := 8, key := .int 8 231, val := .str "VARKEYWORDS" 232 }, { hash := 16, key := .int 16 233, val := .str "NESTED" 234 }, { hash := 32, key := .int 32 235, val := .str "GENERATOR" 236 }, { hash := 64, key := .int 64 237, val := .str "NOFREE" 238 }, { hash := 128, key := .int 128 239, val := .str "COROUTINE" 240 }, { hash := 256, key := .int 256 241, val := .str "ITERABLE_COROUTINE" 242 }, { hash := 512, key := .int 512 243, val := .str "ASYNC_GENERATOR" 244 }]
theorem flag_look (P : Params) : (hk.heap_1 P).lookup 29 = some { cls := .type "dict", data := .dict flagEs 10 } := by kernel_rfl
theorem flag_dict {prog : Program} {w : World} {h₀ : Heap} (X : (hk.heap_1 w.params).In h₀) : h₀.DictOf (intKind prog w) 29 flagKvs := by
  refine ⟨_, flagEs, 10, X 29 _ (flag_look _), ⟨rfl, rfl, rfl⟩, rfl, ?_, ?_, by decide⟩
  · intro e he
    simp only [flagEs, List.mem_toArray, List.mem_cons, List.not_mem_nil, or_false] at he
    rcases he with rfl | rfl | rfl | rfl | rfl | rfl | rfl | rfl | rfl | rfl <;> exact ⟨_, intKind_is _ _ _ _, rfl⟩
  · exact .cons (intKind_is _ _ _ _) rfl (.cons (intKind_is _ _ _ _) rfl (.cons (intKind_is _ _ _ _) rfl (.cons (intKind_is _ _ _ _) rfl (.cons (intKind_is _ _ _ _) rfl (.cons (intKind_is _ _ _ _) rfl (.cons (intKind_is _ _ _ _) rfl (.cons (intKind_is _ _ _ _) rfl (.cons (intKind_is _ _ _ _) rfl (.cons (intKind_is _ _ _ _) rfl .nil)))))))))
noncomputable def wordN (i : Nat) : Str := match i with
  | 0 => "OPTIMIZED" | 1 => "NEWLOCALS" | 2 => "VARARGS" | 3 => "VARKEYWORDS" | 4 => "NESTED" | 5 => "GENERATOR" | 6 => "NOFREE" | 7 => "COROUTINE" | 8 => "ITERABLE_COROUTINE" | 9 => "ASYNC_GENERATOR"
  | i => ⟨#[48, 120, (match i % 4 with | 0 => 49 | 1 => 50 | 2 => 52 | _ => 56)] ++ (List.replicate (i / 4) 48).toArray⟩
noncomputable def flagTok (i : Nat) (u : Tok) : Tok := if i < 10 then 226 + 2 * i else u
theorem flag_here (k : Fin 10) : (valueAt flagKvs ((2 ^ k.val : Nat) : Int)) = some (.str (wordN k) (226 + 2 * k.val)) :=
  List.map_inj_left.mp (show (List.range 10).map (fun k => valueAt flagKvs ((2 ^ k : Nat) : Int)) = (List.range 10).map (fun k => some (.str (wordN k) (226 + 2 * k))) from rfl) k.val (List.mem_range.mpr k.isLt)
theorem flag_gone : ∀ k : Fin 32, 10 ≤ k.val → (valueAt flagKvs ((2 ^ k.val : Nat) : Int)).isNone = true := by decide +kernel
theorem flag_get {prog : Program} {w : World} {A : Around} {E : Value → Shared → Prop} {s : Shared} {h₀ : Heap} {L : Addr} {m : Str → Option Value} {Q : Value → Shared → Prop} {k : Nat} {key : Int} {t u : Tok} {x : Str}
    (F : Fr h₀ L s.heap m) (X : (hk.heap_1 w.params).In h₀) (hk : k < 32) (hkey : key = ((2 ^ k : Nat) : Int)) (hx : 10 ≤ k → x = wordN k)
    (h : Q (.str (wordN k) (flagTok k u)) { s with toks := s.toks + 1 }) : wpAny (model prog w) A (call (.builtin "dict.get") [.ref 29, .int key t, .str x u]) Q E s := by
  subst hkey
  have D : s.heap.DictOf (intKind prog w) 29 flagKvs := by
    obtain ⟨o, es, ep, h1, h2⟩ := flag_dict (prog := prog) X
    exact ⟨o, es, ep, F.keep _ _ h1, h2⟩
  refine call_meetsIn PySem.F.slot_dict_get D.typeIs PySem.F.entry_dict_get (PySem.F.args_dict_get_3 _ _ _) (meets_dict_get_default (intKind prog w) 29 (intKind_is _ _ _ _) (by decide) _) ⟨_, D.mapOf, ?_⟩
  show Q ((valueAt flagKvs ((2 ^ k : Nat) : Int)).getD (.str x u)) _
  by_cases h10 : k < 10
  · have e := flag_here ⟨k, h10⟩
    dsimp only at e
    rw [e]
    unfold flagTok at h
    rw [if_pos h10] at h
    exact h
  · have e := flag_gone ⟨k, hk⟩ (by show 10 ≤ k; omega)
    dsimp only at e
    rw [Option.isNone_iff_eq_none.mp e]
    unfold flagTok at h
    rw [if_neg h10] at h
    rw [hx (by omega)]
    exact h

/-! ## the flags' bits -/
theorem fl_split (z i : Nat) : z / 2 ^ i = 2 * (z / 2 ^ (i + 1)) + (z.testBit i).toNat := by
  rw [Nat.pow_succ, ← Nat.div_div_eq_div_mul, Nat.testBit_eq_decide_div_mod_eq]
  have := Nat.div_add_mod (z / 2 ^ i) 2
  by_cases h : z / 2 ^ i % 2 = 1
  · simp [h]; omega
  · simp [h]; omega
theorem fl_tb (z i j : Nat) : (z / 2 ^ i * 2 ^ i).testBit j = (decide (i ≤ j) && z.testBit j) := by
  rw [Nat.mul_comm, Nat.testBit_two_pow_mul, Nat.testBit_div_two_pow]
  by_cases h : i ≤ j
  · simp [h, Nat.sub_add_cancel h]
  · simp [h]
theorem fl_and (z i : Nat) : (z / 2 ^ i * 2 ^ i) &&& 2 ^ i = if z.testBit i then 2 ^ i else 0 := by
  apply Nat.eq_of_testBit_eq
  intro j
  rw [Nat.testBit_and, fl_tb]
  by_cases h : i = j
  · subst h; by_cases hz : z.testBit i <;> simp [hz, Nat.testBit_two_pow_self]
  · rw [Nat.testBit_two_pow_of_ne h]
    by_cases hz : z.testBit i <;> simp [hz, Nat.testBit_two_pow_of_ne h]
theorem fl_val (z i : Nat) : z / 2 ^ i * 2 ^ i = z / 2 ^ (i + 1) * 2 ^ (i + 1) + (z.testBit i).toNat * 2 ^ i := by
  rw [fl_split z i, Nat.add_mul, Nat.pow_succ, Nat.mul_comm (2 ^ i) 2, ← Nat.mul_assoc, Nat.mul_comm 2]
theorem flag_val {i : Nat} : (1 : Int) * 2 ^ Int.toNat (0 + (i : Int)) = ((2 ^ i : Nat) : Int) := by
  rw [Int.zero_add, Int.toNat_natCast, Int.one_mul]; simp
theorem flI_and (z i : Nat) : Builtin.bitAnd ((z / 2 ^ i * 2 ^ i : Nat) : Int) ((2 ^ i : Nat) : Int) = if z.testBit i then ((2 ^ i : Nat) : Int) else 0 := by
  rw [bitAnd_pp (Int.natCast_nonneg _) (Int.natCast_nonneg _), Int.toNat_natCast, Int.toNat_natCast, fl_and]
  split <;> rfl
theorem flI_xor (z i : Nat) (h : z.testBit i = true) : Builtin.bitXor ((z / 2 ^ i * 2 ^ i : Nat) : Int) ((2 ^ i : Nat) : Int) = ((z / 2 ^ (i + 1) * 2 ^ (i + 1) : Nat) : Int) := by
  rw [bitXor_and, flI_and, if_pos h]
  have := fl_val z i
  rw [h] at this
  simp only [Bool.toNat_true, Nat.one_mul] at this
  omega
theorem fl_off (z i : Nat) (h : z.testBit i = false) : z / 2 ^ i * 2 ^ i = z / 2 ^ (i + 1) * 2 ^ (i + 1) := by
  have := fl_val z i
  rw [h] at this
  simpa using this
theorem bits_on (z i : Nat) (h : z.testBit i = true) : (List.range (i + 1)).filter (z.testBit ·) = (List.range i).filter (z.testBit ·) ++ [i] := by
  rw [List.range_succ, List.filter_append]; simp [h]
theorem bits_off (z i : Nat) (h : z.testBit i = false) : (List.range (i + 1)).filter (z.testBit ·) = (List.range i).filter (z.testBit ·) := by
  rw [List.range_succ, List.filter_append]; simp [h]
/-- the rest is nothing: all the bits have been told -/
theorem bits_all {z i : Nat} (hi : i ≤ 32) (hz : z / 2 ^ i = 0) : (List.range 32).filter (z.testBit ·) = (List.range i).filter (z.testBit ·) := by
  have e : List.range 32 = List.range i ++ (List.range (32 - i)).map (i + ·) := by
    rw [← List.range_add]; congr 1; omega
  rw [e, List.filter_append]
  have : ((List.range (32 - i)).map (i + ·)).filter (z.testBit ·) = [] := by
    rw [List.filter_eq_nil_iff]
    intro j hj
    obtain ⟨k, _, rfl⟩ := List.mem_map.mp hj
    have h2 := Nat.testBit_div_two_pow z (n := i) k
    rw [hz] at h2
    simp at h2
    rw [Nat.add_comm] at h2
    simp [h2]
  rw [this, List.append_nil]
theorem hex_word : ∀ k : Fin 32, 10 ≤ k.val → baseText "0x" 16 ((2 ^ k.val : Nat) : Int) = wordN k := by decide +kernel
theorem hex_short : ∀ k : Fin 32, (baseText "0x" 16 ((2 ^ k.val : Nat) : Int)).length ≤ 100 := by decide +kernel
theorem hex_fits {k : Nat} (hk : k < 32) : (baseText "0x" 16 ((2 ^ k : Nat) : Int)).length ≤ sizeLine := by
  have h := hex_short ⟨k, hk⟩
  have e := sizeLine_eq
  dsimp only at h
  omega
theorem hex_same {k : Nat} (hk : k < 32) (h : 10 ≤ k) : baseText "0x" 16 ((2 ^ k : Nat) : Int) = wordN k := hex_word ⟨k, hk⟩ h
noncomputable def toldWords (z : Nat) : List Str := if z = 0 then [Str.ofString "0x0"] else ((List.range 32).filter (z.testBit ·)).map wordN

end

/-! text: tok -/
section
/-! ## tokens of words -/
noncomputable def OkTok (T t : Nat) : Prop := 1 ≤ t ∧ (t < 245 ∨ T ≤ t)
theorem okTok_ge {T t : Nat} (h1 : 1 ≤ T) (h : T ≤ t) : OkTok T t := ⟨Nat.le_trans h1 h, .inr h⟩
theorem okTok_flag {T i u : Nat} (h1 : 1 ≤ T) (h : T ≤ u) : OkTok T (flagTok i u) := by
  unfold flagTok
  split
  · exact ⟨by omega, .inl (by omega)⟩
  · exact okTok_ge h1 h
theorem numbered_ge {T : Nat} : ∀ (tk : Nat) (xs : List Str), T ≤ tk → ∀ p ∈ numbered tk xs, T ≤ p.2
  | _, [], _, _, hp => nomatch hp
  | tk, x :: xs, h, p, hp => by
    unfold numbered at hp
    rcases List.mem_cons.mp hp with rfl | hp
    · exact h
    · exact numbered_ge (tk + 1) xs (Nat.le_succ_of_le h) p hp
theorem push_strs {l : List (Str × Tok)} {x : Str} {t : Tok} : Array.push (List.toArray (strValues l)) (.str x t) = List.toArray (strValues (l ++ [(x, t)])) := by
  simp [strValues]
section
open Builtin Builtin.Str
variable {prog : Program} {w : World} {A : Around} {E : Value → Shared → Prop} {s : Shared} {h₀ : Heap} {L : Addr} {m : Str → Option Value} {Q : Value → Shared → Prop} {news : List (Addr × Obj)}
theorem join_T {D : Addr} {x : Str} {t : Tok} {l : List (Str × Tok)} {texts : List Str} {n T : Nat} (N : News h₀ L s.heap news) (hD : (D, listOf (strValues l).toArray n) ∈ news) (ht : l.map (·.1) = texts) (hok : JoinOk x texts = true) (h1 : 1 ≤ T) (hT : T ≤ s.toks) (hp : ∀ p ∈ l, OkTok T p.2)
    (hq : ∀ t' k, T ≤ k → OkTok T t' → Q (.str (Txt.join x texts) t') { s with toks := k }) : wpAny (model prog w) A (call (.builtin "str.join") [.str x t, .ref D]) Q E s := by
  subst ht
  unfold JoinOk at hok
  rw [Bool.not_eq_true'] at hok
  have hl : s.heap.IsList D (strValues l).toArray := ⟨_, (N _ hD).1, rfl, n, rfl⟩
  refine call_meets F.slot_str_join (typeIs_str _ _ _) F.entry_str_join (F.args_str_join_2 _ _) (meets_str_join_list x t D l hok) ⟨hl, ?_⟩
  have hf := joinFit_length hok
  match l, hp, hf, hq with
  | [], _, hf, hq => exact ⟨hf, hq _ _ (Nat.le_succ_of_le hT) (okTok_ge h1 hT)⟩
  | [p], hp, _, hq => exact hq p.2 s.toks hT (hp p (List.mem_singleton.mpr rfl))
  | _ :: _ :: _, _, hf, hq => exact ⟨hf, hq _ _ (Nat.le_succ_of_le hT) (okTok_ge h1 hT)⟩
theorem split_T {x y : Str} {t u : Tok} {T : Nat} (hF : Fr h₀ L s.heap m) (N : News h₀ L s.heap news) (hy : (y.length == 0) = false) (hsz : x.length + 2 ≤ sizeLine) (h1 : 1 ≤ T) (hT : T ≤ s.toks) (ht : OkTok T t)
    (h : ∀ l c h' tk, T ≤ tk → l.map (·.1) = Txt.split x y → (∀ p ∈ l, OkTok T p.2) → Fr h₀ L h' m → News h₀ L h' ((s.heap.objs.size, listOf (strValues l).toArray c) :: news) → (∀ p ∈ news, p.1 < s.heap.objs.size) → Q (.ref s.heap.objs.size) { s with heap := h', toks := tk }) :
    wpAny (model prog w) A (call (.builtin "str.split") [.str x t, .str y u]) Q E s := by
  have hlt : ∀ p ∈ news, p.1 < s.heap.objs.size := fun p hp => Heap.lt_size (N p hp).1
  have hn : (partsBetween x (occurrences x y 0 x.length (x.length + 1)) y.length).length ≤ sizeLine := by
    have e1 := StrLaws.occ_length_le x y 0 x.length (x.length + 1)
    rw [length_partsBetween]; omega
  have own : ∀ p ∈ [(x, t)], OkTok T p.2 := fun p hp => by rw [List.mem_singleton.mp hp]; exact ht
  cases e1 : (decide (x.length < y.length) || decide (strKind x < strKind y))
  · cases hf : (occurrences x y 0 x.length (x.length + 1)).isEmpty
    · refine call_meets F.slot_str_split (typeIs_str _ _ _) F.entry_str_split (F.args_str_split_2 _ _) (meets_str_split_sep x y t u e1 hy hf (by omega) hn) ?_
      show wants Q E _ { s with toks := _, heap := s.heap.push { cls := .type "list", data := .seq (strsFrom s.toks (partsBetween x (occurrences x y 0 x.length (x.length + 1)) y.length)).toArray } }
      rw [strsFrom_eq]
      exact h (numbered s.toks _) _ _ _ (Nat.le_trans hT (Nat.le_add_right _ _)) ((numbered_texts _ _).trans ((if_neg (ne_true_of_eq_false e1)).trans (if_neg (ne_true_of_eq_false hf))).symm) (fun p hp => okTok_ge h1 (numbered_ge _ _ hT p hp)) (Fr.pushS hF _) (News.push hF N _) hlt
    · exact call_meets F.slot_str_split (typeIs_str _ _ _) F.entry_str_split (F.args_str_split_2 _ _) (meets_str_split_not_found x y t u e1 hy hf)
        (h [(x, t)] _ _ s.toks hT ((if_neg (ne_true_of_eq_false e1)).trans (if_pos hf)).symm own (Fr.pushS hF _) (News.push hF N _) hlt)
  · exact call_meets F.slot_str_split (typeIs_str _ _ _) F.entry_str_split (F.args_str_split_2 _ _) (meets_str_split_cannot_occur x y t u e1)
      (h [(x, t)] _ _ s.toks hT (if_pos e1).symm own (Fr.pushS hF _) (News.push hF N _) hlt)
end
theorem word_short : ∀ k : Fin 32, (wordN k).length ≤ 20 := by decide +kernel
theorem told_short {z : Nat} : ∀ y ∈ toldWords z, y.length ≤ 20 := by
  unfold toldWords
  split
  · intro y hy; rw [List.mem_singleton.mp hy]; decide
  · intro y hy
    obtain ⟨k, hk, rfl⟩ := List.mem_map.mp hy
    have := (List.mem_filter.mp hk).1
    exact word_short ⟨k, List.mem_range.mp this⟩
theorem told_count (z : Nat) : (toldWords z).length ≤ 32 := by
  unfold toldWords
  split
  · decide
  · rw [List.length_map]
    exact Nat.le_trans (List.length_filter_le ..) (by rw [List.length_range]; exact Nat.le_refl _)
theorem told_joins (z : Nat) : JoinOk ", " (toldWords z) = true := by
  unfold JoinOk
  rw [StrLaws.joinFits (B := 20) told_short]
  · rfl
  · have h := told_count z
    have h2 : Str.length ", " = 2 := by decide
    rw [h2]; omega
theorem told_some {z : Nat} (hz : z ≠ 0) : toldWords z = ((List.range 32).filter (z.testBit ·)).map wordN := by
  unfold toldWords; rw [if_neg hz]
theorem pretty_all {z i : Nat} {l : List (Str × Tok)} {x : Str} {t : Tok} (hi : i < 32) (hz : z ≠ 0) (hb : z.testBit i = true) (h0 : ((z / 2 ^ (i + 1) * 2 ^ (i + 1) : Nat) : Int) = 0)
    (hx : x = wordN i) (p2 : l.map (·.1) = ((List.range i).filter (z.testBit ·)).map wordN) : (l ++ [(x, t)]).map (·.1) = toldWords z := by
  have h2 : 0 < 2 ^ (i + 1) := Nat.two_pow_pos _
  have h3 : z / 2 ^ (i + 1) = 0 := by
    rcases Nat.eq_zero_or_pos (z / 2 ^ (i + 1)) with h | h
    · exact h
    · have := Nat.mul_pos h h2; omega
  rw [told_some hz, bits_all (i := i + 1) (by omega) h3, bits_on z i hb, List.map_append, List.map_append, p2, hx]
  rfl
theorem pretty_on {z i : Nat} {l : List (Str × Tok)} {x : Str} {t : Tok} (hb : z.testBit i = true) (hx : x = wordN i) (p2 : l.map (·.1) = ((List.range i).filter (z.testBit ·)).map wordN) :
    (l ++ [(x, t)]).map (·.1) = ((List.range (i + 1)).filter (z.testBit ·)).map wordN := by
  rw [bits_on z i hb, List.map_append, List.map_append, p2, hx]
  rfl
theorem ok_snoc {T : Nat} {l : List (Str × Tok)} {x : Str} {t : Tok} (h : ∀ p ∈ l, OkTok T p.2) (ht : OkTok T t) : ∀ p ∈ l ++ [(x, t)], OkTok T p.2 := by
  intro p hp
  rcases List.mem_append.mp hp with hp | hp
  · exact h p hp
  · rw [List.mem_singleton.mp hp]; exact ht
theorem rest_nz {z i : Nat} (h0 : ((z / 2 ^ (i + 1) * 2 ^ (i + 1) : Nat) : Int) ≠ 0) : z / 2 ^ (i + 1) ≠ 0 := by
  intro h; rw [h] at h0; simp at h0
theorem bit_nz {z i : Nat} (hb : z.testBit i = true) : z ≠ 0 := by
  rintro rfl; simp at hb
theorem hex_zero : baseText "0x" 16 0 = Str.ofString "0x0" := by decide +kernel
theorem off_nz {z i : Nat} (hb : z.testBit i = false) (h : z = 0 ∨ z / 2 ^ i ≠ 0) : z = 0 ∨ z / 2 ^ (i + 1) ≠ 0 := by
  rcases h with h | h
  · exact .inl h
  · refine .inr fun h2 => h ?_
    have := fl_split z i
    rw [h2, hb] at this
    simpa using this
theorem pretty_none {fl : Int} {l : List (Str × Tok)} {t : Tok} (h : fl = ((0 / 2 ^ 32 * 2 ^ 32 : Nat) : Int)) (p2 : l.map (·.1) = ((List.range 32).filter (Nat.testBit 0 ·)).map wordN) :
    (l ++ [(baseText "0x" 16 fl, t)]).map (·.1) = toldWords 0 := by
  have e : ((0 / 2 ^ 32 * 2 ^ 32 : Nat) : Int) = 0 := by decide
  rw [h, e, hex_zero, List.map_append, p2]
  have e2 : ((List.range 32).filter (Nat.testBit 0 ·)) = [] := by
    rw [List.filter_eq_nil_iff]; intro a _; simp
  rw [e2]
  rfl

end

/-! text: enum -/
section
/-! ## for i, v in enumerate(list) -/
section
variable {prog : Program} {w : World} {A : Around} {E : Value → Shared → Prop} {Q : Flow → Shared → Prop} {s : Shared} {env : Env} {g : Heap}
noncomputable def LoopP (prog : Program) (w : World) (A : Around) (env : Env) (target : Expr) (body orelse : List Stmt) (Q : Flow → Shared → Prop) (E : Value → Shared → Prop) (it : Value) (s₂ : Shared) : Prop :=
  codeAny (model prog w) A (.forLoop target it body orelse env) (fun r s' => match r with | .ok f => Q f s' | .error e => cameBackBy (model prog w) A env E e s') s₂
theorem For_P {target : Expr} {pos : Pos} {iter : Expr} {body orelse : List Stmt}
    (h : wpAny (model prog w) A (eval iter env) (fun xv s₁ => wpAny (model prog w) A (pyIter xv) (fun it s₂ => LoopP prog w A env target body orelse Q E it s₂) E s₁) E s)
    (hs : ∀ x, foldedSetIterable iter env x = pure x := by intro _; rfl) :
    wpAny (model prog w) A (exec (.For target iter body orelse pos) env) Q E s :=
  wpAny_For (wpAny_mono h (fun _ _ h₁ => wpAny_mono h₁ (fun _ _ h₂ => h₂) fun _ _ e => e) fun _ _ e => e) hs
theorem enum_cut {xi xv : Str} {pi pv pt : Pos} {x1 : Nat} {body orelse : List Stmt} {ax : Addr} {vs : List Value} {kk : Nat} {m₀ : Str → Option Value} {news₀ : List (Addr × Obj)} (ps : List (Str × Value)) (P : Nat → Prop)
    (hxi : env.kindOf xi = some .local) (hxv : env.kindOf xv = some .local) (hpk : (env.scope.kind == .class || (env.scope.kind == .module && env.locals != env.globals)) = false) (hh : A.handled = none)
    (F : Fr g env.locals s.heap m₀) (N : News g env.locals s.heap news₀) (hD : (ax, listOf vs.toArray kk) ∈ news₀) (hk : EnvHas m₀ ps) (hp : P 0)
    (turn : ∀ (i : Nat) v u h tk t own, vs[i]? = some v → P i → Fr g env.locals h (kstB u ((xv, v) :: (xi, .int (i : Int) t) :: ps)) → News g env.locals h (news₀ ++ own) →
      wpAny (model prog w) A (execs body env) (WPost Q (Cut g env.locals { s with heap := h, toks := tk } (fun (_ : Unit) => news₀ ++ own) (fun _ => ps) (fun _ => P (i + 1)))) E { s with heap := h, toks := tk })
    (done : ∀ u h tk, P vs.length → Fr g env.locals h (kstB u ps) → News g env.locals h news₀ → wpAny (model prog w) A (execs orelse env) Q E { s with heap := h, toks := tk })
    (hE : PassesOwn (model prog w) A env E := by passes_own) :
    wpAny (model prog w) A (call (.type "enumerate") [.ref ax]) (fun xv' s₁ => wpAny (model prog w) A (pyIter xv') (fun it s₂ => LoopP prog w A env (.Tuple [.Name xi pi, .Name xv pv] x1 pt) body orelse Q E it s₂) E s₁) E s := by
  have hax := N _ hD
  have hl : s.heap.IsList ax vs.toArray := ⟨_, hax.1, rfl, kk, rfl⟩
  have hlt : ax < s.heap.objs.size := Heap.lt_size hax.1
  have hLlt : env.locals < s.heap.objs.size := F.ns.lt
  refine call_enumerate_list hl fun h' hE' hI' hsz hkk => ?_
  refine wpAny_pyIter_enum hE' ?_
  have W := WalksT.enumerate (prog := prog) (w := w) hh (s.heap.objs.size + 1) s.heap.objs.size ax (Nat.succ_ne_self _) (Nat.ne_of_lt (Nat.lt_succ_of_lt hlt)) (Nat.ne_of_lt hlt) vs.toArray
  have hlen : vs.toArray.size = vs.length := by simp
  rw [hlen] at W
  generalize hfp : [s.heap.objs.size + 1, s.heap.objs.size, ax] = fp at W
  generalize hwrE : [s.heap.objs.size + 1, s.heap.objs.size] = wr at W
  have hLf : env.locals ∉ fp := by
    rw [← hfp]; intro hm
    have h9 := hax.2.1
    simp only [List.mem_cons, List.not_mem_nil, or_false] at hm
    rcases hm with e | e | e
    · exact Nat.lt_irrefl _ (Nat.lt_trans (e ▸ hLlt : s.heap.objs.size + 1 < s.heap.objs.size) (Nat.lt_succ_self _))
    · exact Nat.lt_irrefl _ (e ▸ hLlt : s.heap.objs.size < s.heap.objs.size)
    · exact h9 e.symm
  have gnone : ∀ b, s.heap.objs.size ≤ b → g.get? b = none := by
    intro b hb
    cases e : g.get? b with
    | none => rfl
    | some o => exact absurd (Heap.lt_size (F.keep b o e)) (Nat.not_lt.mpr hb)
  have hwr : ∀ b ∈ wr, g.get? b = none := by
    rw [← hwrE]; intro b hb
    simp only [List.mem_cons, List.not_mem_nil, or_false] at hb
    rcases hb with rfl | rfl
    · exact gnone _ (Nat.le_succ _)
    · exact gnone _ (Nat.le_refl _)
  have hnw : ∀ p ∈ news₀, p.1 ∉ wr := by
    rw [← hwrE]; intro p hp' hb
    have := Heap.lt_size (N p hp').1
    simp only [List.mem_cons, List.not_mem_nil, or_false] at hb
    rcases hb with e | e
    · rw [e] at this; exact Nat.lt_irrefl _ (Nat.lt_trans this (Nat.lt_succ_self _))
    · rw [e] at this; exact Nat.lt_irrefl _ this
  have hLw : env.locals ∉ wr := fun h => hLf (W.sub _ h)
  have old : ∀ b o, g.get? b = some o → b ∉ wr := fun b o e hb => by rw [hwr b hb] at e; cases e
  unfold LoopP
  refine codeAny_forLoop_any
    (fun k s' => ∃ (h' : Heap) (tk : Nat) (m' : Str → Option Value) (i : Nat), s' = { s with heap := h', toks := tk } ∧ ((∃ old, IsEnum h' (s.heap.objs.size + 1) s.heap.objs.size i old) ∧ h'.IsListIter s.heap.objs.size ax i ∧ h'.IsList ax vs.toArray) ∧ Fr g env.locals h' m' ∧ News g env.locals h' news₀ ∧ (EnvHas m' ps) ∧ P i ∧ i ≤ vs.length ∧ k = vs.length + 1 - i) ?_ (vs.length + 1)
    ⟨h', s.toks, m₀, 0, rfl, ⟨⟨_, hE'⟩, hI', hl.at fun o e => hkk _ o e⟩, F.keeps hkk, N.grown hkk, hk, hp, Nat.zero_le _, rfl⟩
  rintro k s' ⟨h', tk, m', i, rfl, hst', F', N', hk', hp', hi, rfl⟩
  have next : ∀ (h₀ h₁ : Heap), Fr g env.locals h₀ m' → News g env.locals h₀ news₀ → (∀ b o, b ∉ wr → h₀.get? b = some o → h₁.get? b = some o) → Fr g env.locals h₁ m' ∧ News g env.locals h₁ news₀ := fun h₀ h₁ F₀ N₀ hk₁ =>
    ⟨⟨F₀.ns.at' fun o e => hk₁ _ o hLw e, fun b o e => hk₁ b o (old b o e) (F₀.keep b o e), F₀.above⟩, fun p hp => ⟨hk₁ _ _ (hnw p hp) (N₀ p hp).1, (N₀ p hp).2⟩⟩
  by_cases hlt : i < vs.length
  · refine W.item i _ _ _ hlt hst' fun T vals h₁ tk₁ hP hT hIT hmid hk₁ => ?_
    obtain ⟨F₁, N₁⟩ := next _ _ F' N' hk₁
    have hTw := W.apart _ _ _ hmid
    refine W.go _ _ _ i T _ _ _ hmid fun h₂ hst₂ hk₂ => ?_
    obtain ⟨F₂, N₂⟩ := next _ _ F₁ N₁ hk₂
    obtain ⟨t, x, hx, rfl⟩ := hP
    have ht₂ : h₂.IsTuple T #[.int (i : Int) t, x] := hIT.at fun o e => hk₂ _ o hTw e
    refine wpAny_assign_Tuple hh ht₂ rfl rfl fun h₃ hx₃ => ?_
    replace hx₃ : Heap.ExtBut h₂.objs.size h₂ h₃ := hx₃
    have old₃ : ∀ b o, h₂.get? b = some o → h₃.get? b = some o := fun b o x => hx₃ b o (Nat.ne_of_lt (Heap.lt_size x)) x
    have F₃ : Fr g env.locals h₃ m' := F₂.keeps old₃
    have N₃ : News g env.locals h₃ news₀ := N₂.grown old₃
    have hst₃ := W.frame _ _ _ hst₂ fun b _ o e => old₃ b o e
    show wpAny _ A (do holding [x] (assign (.Name xi pi) env (.int i t)); holding [] (assign (.Name xv pv) env x); pure ()) _ _ _
    refine wpAny_bind (wpAny_holding (wpAny_assign_Name (wpAny_storeName_local hxi F₃.ns (fun h₄ hn₄ hs₄ => ?_) hpk)))
    have F₄ := F₃.set hn₄ hs₄
    refine wpAny_bind (wpAny_holding (wpAny_assign_Name (wpAny_storeName_local hxv hn₄ (fun h₅ hn₅ hs₅ => wpAny_pure ?_) hpk)))
    have F₅ := F₄.set hn₅ hs₅
    have N₅ : News g env.locals h₅ news₀ := (N₃.set hs₄).set hs₅
    have hst₅ := W.frame _ _ _ (W.frame _ _ _ hst₃ fun b hb o e => (hs₄.2 b fun q => hLf (q ▸ hb)).trans e) fun b hb o e => (hs₅.2 b fun q => hLf (q ▸ hb)).trans e
    have F₆ : Fr g env.locals h₅ (kstB m' ((xv, x) :: (xi, .int (i : Int) t) :: ps)) := by
      have e : kstB m' ((xv, x) :: (xi, .int (i : Int) t) :: ps) = fun y => if y = xv then some x else (if y = xi then some (.int (i : Int) t) else m' y) := by
        funext y
        show (if y = xv then _ else if y = xi then _ else kstB m' ps y) = _
        by_cases hy : y = xv
        · rw [if_pos hy, if_pos hy]
        · rw [if_neg hy, if_neg hy]
          by_cases hz : y = xi
          · rw [if_pos hz, if_pos hz]
          · rw [if_neg hz, if_neg hz]
            exact kstB_eq hk' fun _ => rfl
      rw [e]; exact F₅
    have Nown : News g env.locals h₅ (ownOf g fp h₅) := news_ownOf hLf
    refine wpAny_mono (wpAny_passesOwn hE (turn i x m' h₅ _ t (ownOf g fp h₅) (by simpa using hx) hp' F₆ (N₅.append Nown))) (fun f s₆ h₆ => ?_) fun _ _ e => e
    have fin : Cut g env.locals { s with heap := h₅, toks := tk₁ + 1 + 1 } (fun (_ : Unit) => news₀ ++ ownOf g fp h₅) (fun _ => ps) (fun _ => P (i + 1)) s₆ → ∃ m, m < vs.length + 1 - i ∧ ∃ (h' : Heap) (tk : Nat) (m' : Str → Option Value) (i : Nat), s₆ = { s with heap := h', toks := tk } ∧ ((∃ old, IsEnum h' (s.heap.objs.size + 1) s.heap.objs.size i old) ∧ h'.IsListIter s.heap.objs.size ax i ∧ h'.IsList ax vs.toArray) ∧ Fr g env.locals h' m' ∧ News g env.locals h' news₀ ∧ (EnvHas m' ps) ∧ P i ∧ i ≤ vs.length ∧ m = vs.length + 1 - i := by
      rintro ⟨_, h₇, tk₇, m₇, news₇, rfl, F₇, N₇, hn₇, hk₇, hp₇⟩
      refine ⟨vs.length + 1 - (i + 1), by omega, h₇, tk₇, m₇, i + 1, rfl, W.frame _ _ _ hst₅ fun b hb o e => ?_, F₇, fun p hp => N₇ p (hn₇ p (List.mem_append_left _ hp)), hk₇, hp₇, hlt, rfl⟩
      cases hn : g.get? b with
      | some o₀ =>
        have : o₀ = o := by have := F₅.keep b o₀ hn; rw [e] at this; exact (Option.some.inj this).symm
        exact this ▸ F₇.keep b o₀ hn
      | none => exact (N₇ _ (hn₇ _ (List.mem_append_right _ (mem_ownOf hb hn e)))).1
    cases f with
    | ret v => exact h₆
    | brk => exact h₆
    | cont => exact fin h₆
    | next => exact fin h₆
  · have hin : i = vs.length := by omega
    subst hin
    refine W.done _ _ _ hst' fun h₁ tk₁ hk₁ => ?_
    obtain ⟨F₁, N₁⟩ := next _ _ F' N' hk₁
    exact wpAny_passesOwn hE (done m' h₁ tk₁ hp' (fr_kst _ F₁ hk') N₁)
end

end

/-! text: cells -/
section
/-! ## entering a def with captured names, with count of the tokens -/
section
variable {prog : Program} {w : World} {A₀ A : Around} {s : Shared} {base h₀ : Heap} {outer : List Env} {L : Addr} {m mg mb : Str → Option Value} {env : Env} {news : List (Addr × Obj)} {K : Frag} {p : Program} {loose : List Str} {mean : ExcName → Option Value}
  {R : Result → Shared → Prop} {name qual : Str} {params : Arguments} {body : List Stmt} {scope : Scope} {dV kV doc pm cdv ct oc : Value} {an od : Option Addr} {osl : Array (Option Value)} {f : Addr} {args : Args} {binds : List (Str × Value)}
theorem enter_cellsT (T₀ : Nat) (hT₀ : T₀ ≤ s.toks) (B : Below A₀ base outer h₀) (F : Fr h₀ L s.heap m) (X₀ : K.In h₀) (N : News h₀ L s.heap news) (T : Top p loose mean mg mb h₀) (hA : A.frames = some (env :: outer)) (hf : env.frame = some L) (hke : env.scope.kind = .function)
    (ho : K.lookup f = some ⟨oc, od, .func (fnOf name qual params body scope dV kV doc pm an cdv ct), osl⟩) (hcd : codeIn K cdv qual = true) (hroom : A.depth < recursionLimit)
    (hbind : BindsTo s (fnOf name qual params body scope dV kV doc pm an cdv ct) args binds) (hkind : (binds.all fun y => scope.names.lookup y.1 == some .local || scope.names.lookup y.1 == some .cell) = true)
    (hnd : ((cellsFrom 0 scope.names []).map (·.1)).Nodup)
    (h : ∀ g L' h₁ tk cells, T₀ ≤ tk → Fr h₀ L g m → Fr g L' h₁ (bindL (envOfC qual scope L' f cdv).kindOf binds fun _ => none) → News g L' h₁ (cells ++ news) →
      CellsAre (bindC (envOfC qual scope L' f cdv).kindOf binds fun _ => none) (cellsFrom (L' + 1) scope.names []) cells → Below A base (env :: outer) g → K.In g → Top p loose mean mg mb g → (∀ p ∈ news, p.1 < L') → (∀ p ∈ cells, L' < p.1) →
      wpAny (model prog w) (A.deeper (envOfC qual scope L' f cdv)) (execs body (envOfC qual scope L' f cdv))
        (fun fl s' => LeaveK h₀ L m g R (match fl with | .ret v => v | _ => .none) s')
        (fun e s' => wpAny (model prog w) (A.deeper (envOfC qual scope L' f cdv)) (leaving (envOfC qual scope L' f cdv) e) (fun _ s'' => R (.error e) s'') (fun e' s'' => R (.error e') s'') s')
        { s with heap := h₁, toks := tk })
    (hco : scope.isCoroutine = false) (hgen : scope.isGenerator = false) (hk : scope.kind = .function) : codeAny (model prog w) A (.call (.ref f) args) R s := by
  obtain ⟨FG, BG, st, lv⟩ := groundX (R := R) B F N hA hf hke
  have hlt : ∀ p ∈ news, p.1 < s.heap.objs.size := fun p hp => Heap.lt_size (N p hp).1
  refine codeAny_call_function hroom ((X₀.keeps F.keep) _ _ ho) rfl hco hgen rfl (codeRec_of (X₀.keeps F.keep) hcd) (hbind _ _ _ _ ?_)
  refine wpAny_with_toks hT₀ (wpAny_newFunctionEnv_cells hk (kindsX hkind _) fun env' he s' x htk => ?_)
  subst he
  have hx := x.toInCall.keep
  refine ⟨(T.nolimit.keeps F.keep).keeps hx, codeAny_func ?_⟩
  obtain ⟨h₁, tk, rfl, _⟩ := x.done
  obtain ⟨cells, NC, Y⟩ := Cl.news (h₀ := s.heap) (Nat.le_refl _) fun n c hm => ⟨x.cell n c (lookup_of_mem_nodup (cellsFrom_names scope.names 0 (s.heap.objs.size + 1) [] [] rfl ▸ hnd) hm), x.above n c hm⟩
  have F₁ : Fr (hideAll s.heap (news.map (·.1))) s.heap.objs.size h₁ _ := ⟨x.toInCall.ns, fun b o e => hx b o (of_hideAll _ e), Nat.le_of_eq (hideAll_size _ _)⟩
  have N₁ : News (hideAll s.heap (news.map (·.1))) s.heap.objs.size h₁ (cells ++ news) := by
    intro q hq
    rcases List.mem_append.mp hq with hq | hq
    · refine ⟨(NC q hq).1, (NC q hq).2.1, ?_⟩
      cases e : (hideAll s.heap (news.map (·.1))).get? q.1 with
      | none => rfl
      | some o => have := of_hideAll _ e; rw [(NC q hq).2.2] at this; cases this
    · exact ⟨hx _ _ (N q hq).1, Nat.ne_of_lt (hlt q hq), hideAll_none _ (List.mem_map_of_mem hq)⟩
  have ab : ∀ q ∈ cells, s.heap.objs.size < q.1 := by
    intro q hq
    have key : ∀ {cs : List (Str × Addr)} {cells : List (Addr × Obj)} {cm : Str → Option Value}, CellsAre cm cs cells → ∀ q ∈ cells, ∃ n, (n, q.1) ∈ cs := by
      intro cs cells cm Y
      induction Y with
      | nil => intro q hq; cases hq
      | cons _ _ ih =>
        intro q hq
        rcases List.mem_cons.mp hq with rfl | hq
        · exact ⟨_, List.mem_cons_self ..⟩
        · obtain ⟨n, hn⟩ := ih q hq
          exact ⟨n, List.mem_cons_of_mem _ hn⟩
    obtain ⟨n, hn⟩ := key Y q hq
    exact x.above n _ hn
  exact wpAny_mono (h _ s.heap.objs.size h₁ tk cells htk FG F₁ N₁ Y BG (X₀.keeps st) (T.keeps st) hlt ab) (fun fl s' hl => lv _ _ hl) fun _ _ y => y
end

end

/-! text: iadd -/
section
/-! ## list += list -/
section
variable {prog : Program} {w : World} {A : Around} {E : Value → Shared → Prop} {s : Shared} {h₀ : Heap} {L : Addr} {m : Str → Option Value} {news news' : List (Addr × Obj)}
theorem iadd_list_lists {D b : Addr} {its its2 : Array Value} {l : List Value} {n n2 : Nat} {Q : Value → Shared → Prop} (F : Fr h₀ L s.heap m) (N : News h₀ L s.heap news) (hb : (b, listOf its2 n2) ∈ news) (e : its.toList ++ its2.toList = l) (hne : its2.toList.length ≠ 0)
    (U : Upd D (listOf its n) (listOf l.toArray (n + 1)) news news') (hz : its.size + its2.size ≤ 1000)
    (h : ∀ h', Fr h₀ L h' m → News h₀ L h' news' → Q (.ref D) { s with heap := h' }) : wpAny (model prog w) A (inplaceOp .Add (.ref D) (.ref b)) Q E s := by
  obtain ⟨pre, post, rfl, rfl, a, c⟩ := U.split
  have z := N (D, listOf its n) (List.mem_append.mpr (.inr (.head _)))
  have hsz : its.size + its2.size ≤ sizeLine := by rw [sizeLine_eq]; omega
  have ha : s.TypeIs (.ref D) "list" := ⟨_, z.1, rfl⟩
  have hb' : s.TypeIs (.ref b) "list" := ⟨_, (N _ hb).1, rfl⟩
  unfold inplaceOp
  refine wpAny_holding ?_
  have hfi : fillsInplaceSlot (.type "list") "add" (Operator.Add == .Add) = pure false := by
    unfold fillsInplaceSlot
    show (typeLookup (.type "list") (dunderI "add") >>= fun fi => pure (fi.isSome && !isSeqSlot fi)) = pure false
    rw [PySem.F.slot_list_iadd.lookup]; rfl
  refine wpAny_bind (wpAny_typeOf ha (wpAny_bind (wpAny_of_eq hfi ?_)))
  show wpAny _ A (if false = true then _ else _) Q E s
  rw [if_neg Bool.false_ne_true]
  refine wpAny_bind (binaryOp1_none (nm := "add") ha hb' noFill_list_add ?_)
  refine wpAny_bind (wpAny_of_eq (PyProof.Rows.seqSlot_of PySem.F.slot_list_iadd.lookup (by decide +kernel)) ?_)
  refine wpAny_bind (wpAny_rule ?_)
  refine call_meets PySem.F.slot_list_iadd ha PySem.F.entry_list_iadd (PySem.F.args_list_iadd_2 _ _) (PySem.AutoSeq1.list___iadd___list_list_0 D its n b its2 n2 (extend_door hsz) (Nat.le_trans (Nat.le_add_right _ _) hsz) (Nat.le_succ_of_le hsz)) ⟨z.1, (N _ hb).1, ?_⟩
  refine h _ (F.change (Heap.SameBut.update ..) z.2.1 z.2.2) (kl_turn _ N a c ?_ ?_)
  · subst e
    apply Array.toList_inj.mp
    simp
  · subst e
    simp at hne ⊢
    exact hne
end

end

/-! text: comp -/
section
/-! ## a list comprehension over a range that keeps count of the tokens -/
section
open PyProof.Rows.LCg
variable {prog : Program} {w : World} {A : Around} {E : Value → Shared → Prop} {s : Shared} {h₀ : Heap} {L : Addr} {m : Str → Option Value} {env : Env}
noncomputable def TurnT (prog : Program) (w : World) (A : Around) (h₀ : Heap) (L : Addr) (m : Str → Option Value) (env : Env) (elt : Expr) (x : Str) (scope : Scope) (cl : List (Str × Addr)) (s : Shared) (a : Int) (n T : Nat) (news : List (Addr × Obj)) (Pv : Nat → Value → Nat → Prop) : Prop :=
  ∀ (i : Nat) (t : Tok) (I : Addr) (oI : Obj) (C : Addr) (oC : Obj) (D : Addr) (m₂ : Str → Option Value) (h : Heap) (tk : Nat) (ys : List Value) (E' : Value → Shared → Prop), i < n → T ≤ tk → NsObj oC m₂ → m₂ x = some (.int (a + (i : Int)) t) → Fr h₀ L h m → News h₀ L h ((I, oI) :: (C, oC) :: (D, lst ys) :: news) → Off3 I C D news → ((@Ne Nat I C) ∧ (@Ne Nat I D) ∧ (@Ne Nat C D)) →
    wpAny (model prog w) A (eval elt (compEnvC scope cl C env)) (fun y s₄ => ∃ h' tk', s₄ = { s with heap := h', toks := tk' } ∧ Fr h₀ L h' m ∧ News h₀ L h' ((I, oI) :: (C, oC) :: (D, lst ys) :: news) ∧ Pv i y tk') E' { s with heap := h, toks := tk }
noncomputable def SrcT (prog : Program) (w : World) (A : Around) (h₀ : Heap) (L : Addr) (m : Str → Option Value) (env : Env) (elt : Expr) (x : Str) (scope : Scope) (cl : List (Str × Addr)) (Q : Value → Shared → Prop) (xv : Value) (s₁ : Shared) : Prop :=
  ∃ r a b t u v n news T Pv, xv = .ref r ∧ A.handled = none ∧ Fr h₀ L s₁.heap m ∧ News h₀ L s₁.heap news ∧ IsRange s₁.heap r a b 1 t u v ∧ Builtin.Range.small a b 1 = true ∧ Builtin.Range.rangeSize a b 1 = ((n : Nat) : Int) ∧ n ≤ 1000 ∧ T ≤ s₁.toks ∧
    (∀ i y k k', k ≤ k' → Pv i y k → Pv i y k') ∧ TurnT prog w A h₀ L m env elt x scope cl s₁ a n T news Pv ∧
    ∀ D h tk ys, T ≤ tk → ys.length = n → (∀ j y, ys[j]? = some y → Pv j y tk) → Fr h₀ L h m → News h₀ L h ((D, lst ys) :: news) → (∀ p ∈ news, p.1 < D) → Q (.ref D) { s₁ with heap := h, toks := tk }
theorem ListComp_TR {elt iter : Expr} {x : Str} {px : Pos} {scope : Scope} {cl : List (Str × Addr)} {pos : Pos} {Q : Value → Shared → Prop} (Fs₀ : Fr h₀ L s.heap m) (T : Nat) (hT : T ≤ s.toks)
    (hclos : closureFor scope env = pure cl) (hcell : ∀ y ∈ scope.names, y.2 ≠ .cell) (hkind : scope.kind = .function)
    (hnames : ∀ y ∈ scope.names, y.2 = .local → scope.names.lookup y.1 = some .local) (hx : scope.names.lookup x = some .local)
    (h : wpAny (model prog w) A (eval iter env) (fun xv s₁ => T ≤ s₁.toks → SrcT prog w A h₀ L m env elt x scope cl Q xv s₁) E s)
    (hs : ∀ x, foldedSetIterable iter env x = pure x := by intro _; rfl) :
    wpAny (model prog w) A (eval (.ListComp elt [⟨.Name x px, iter, [], 0⟩] scope pos) env) Q E s := by
  rw [eval_ListComp]
  refine wpAny_comprehension_free (use := none) rfl hs hclos hkind hnames (wpAny_with_toks hT (wpAny_mono h (fun xv s₁ h₁ hT₁ => ?_) fun _ _ e _ => e))
  obtain ⟨r, a, b, t, u, v, n, news, T, Pv, rfl, hh, F, N, hr, hsm, hn, hsz, hTs, mono, turn, fin⟩ := h₁ hT₁
  clear h₁ hT₁ hT
  refine wpAny_pyIter_range hr hsm ?_
  generalize hIe : s₁.heap.objs.size = I
  generalize hH1 : s₁.heap.push _ = H1
  have W := range_walks (prog := prog) (w := w) (A := A) (I := I) hh a n
  have up₁ : ∀ b o, s₁.heap.get? b = some o → H1.get? b = some o := fun b o e => by rw [← hH1]; exact Heap.get?_push_of_some _ e
  have hst : IsRangeIter H1 I (a + (0 : Nat) * 1) ((n : Int) - (0 : Nat)) 1 := by
    show H1.get? I = some _
    rw [← hH1, ← hIe, hn]; simpa using Heap.get?_push_size _ rfl
  have hz1 : H1.objs.size = I + 1 := by rw [← hH1, ← hIe, Heap.size_push]
  refine wpAny_newObj_type (wpAny_newFunctionEnv hcell (by intro y hy; simp at hy) (fun h₁ hns₁ hsb₁ => ?_) hkind)
  dsimp only at hns₁ hsb₁ ⊢
  generalize hH2 : H1.push { cls := .type "list", dict := none, data := .seq ([] : List Value).toArray } = H2 at hns₁ hsb₁ ⊢
  generalize hDe : H1.objs.size = D
  rw [hDe] at hz1
  generalize hCe : H2.objs.size = C at hns₁ hsb₁ ⊢
  have hz2 : C = D + 1 := by rw [← hCe, ← hH2, Heap.size_push, hDe]
  have lo : ∀ b o, s₁.heap.get? b = some o → b < I := fun b o e => hIe ▸ Heap.lt_size e
  have hIC : I ≠ C := by rw [hz2, hz1]; exact Nat.ne_of_lt (Nat.lt_succ_of_lt (Nat.lt_succ_self _))
  have hID : I ≠ D := by rw [hz1]; exact Nat.ne_of_lt (Nat.lt_succ_self _)
  have hDC : D ≠ C := by rw [hz2]; exact Nat.ne_of_lt (Nat.lt_succ_self _)
  have belowI : ∀ b : Addr, b < I → b ≠ I ∧ b ≠ C ∧ b ≠ D := fun b hb => ⟨Nat.ne_of_lt hb, by rw [hz2, hz1]; exact Nat.ne_of_lt (Nat.lt_succ_of_lt (Nat.lt_succ_of_lt hb)), by rw [hz1]; exact Nat.ne_of_lt (Nat.lt_succ_of_lt hb)⟩
  have up₂ : ∀ b o, H1.get? b = some o → h₁.get? b = some o := fun b o e => hsb₁.extBut b o (by
    rw [← hCe, ← hH2, Heap.size_push]; exact Nat.ne_of_lt (Nat.lt_succ_of_lt (Heap.lt_size e))) (Heap.get?_push_of_some _ (by rw [← hH2]; exact Heap.get?_push_of_some _ e))
  have old : ∀ b o, s₁.heap.get? b = some o → h₁.get? b = some o := fun b o e => up₂ b o (up₁ b o e)
  have hacc : h₁.get? D = some (lst []) := hsb₁.extBut _ _ hDC (Heap.get?_push_of_some _ (by rw [← hH2, ← hDe]; exact Heap.get?_push_size _ rfl))
  have hst₁ : IsRangeIter h₁ I (a + (0 : Nat) * 1) ((n : Int) - (0 : Nat)) 1 := up₂ _ _ hst
  have none₀ : ∀ b : Addr, I ≤ b → h₀.get? b = none := fun b hb => by
    cases e : h₀.get? b with
    | none => rfl
    | some o => exact absurd (lo b o (F.keep b o e)) (Nat.not_lt.mpr hb)
  have hI₀ : h₀.get? I = none := none₀ _ (Nat.le_refl _)
  have hD₀ : h₀.get? D = none := none₀ _ (by rw [hz1]; exact Nat.le_succ _)
  have hC₀ : h₀.get? C = none := none₀ _ (by rw [hz2, hz1]; exact Nat.le_succ_of_le (Nat.le_succ _))
  have hLI : L < I := by obtain ⟨o, _, _, e, _⟩ := F.ns; exact lo _ _ e
  have hL := belowI L hLI
  have nlt : ∀ p ∈ news, p.1 < I := fun p hp => lo _ _ (N p hp).1
  have off : ∀ p ∈ news, p.1 ≠ I ∧ p.1 ≠ C ∧ p.1 ≠ D := fun p hp => belowI _ (nlt p hp)
  have loop : ∀ s₃ : Shared, (∃ tk, s₃ = { s₁ with heap := h₁, toks := tk } ∧ T ≤ tk) →
      codeAny (model prog w) A (.compLoop (.ListComp elt [⟨.Name x px, iter, [], 0⟩] scope pos) 0 (.ref I) (.ref D) (compEnvC scope cl C env)) (compPost (model prog w) A E none Q (.ref D) C) s₃ := by
    rintro s₃ ⟨tk₃, rfl, hT₃⟩
    refine codeAny_compLoop_tests
      (fun k s' => ∃ h' tk i ys m', s' = { s₁ with heap := h', toks := tk } ∧ T ≤ tk ∧ i ≤ n ∧ k = n + 1 - i ∧ ys.length = i ∧ IsRangeIter h' I (a + (i : Nat) * 1) ((n : Int) - (i : Nat)) 1 ∧ Fr h₀ L h' m ∧ h'.Ns C m' ∧ News h₀ L h' ((D, lst ys) :: news) ∧ (∀ j y, ys[j]? = some y → Pv j y tk)) ?_ (n + 1)
      ⟨h₁, tk₃, 0, [], _, rfl, hT₃, Nat.zero_le _, rfl, rfl, hst₁, F.keeps old, hns₁, fun p hp => ?_, fun j y hy => by simp at hy⟩
    · rintro k s' ⟨h', tk, i, ys, m', rfl, hTk, hi, rfl, hyl, hst', F', hn', N', hP'⟩
      by_cases hlt : i < n
      · refine wpAny_with_toks (n := tk) (Nat.le_refl _) (W.item i _ _ _ hlt hst' fun v h₂ tk₂ hPv hst₂ hk₂ htk₂ => ?_)
        obtain ⟨t', rfl⟩ := hPv
        refine wpAny_assign_Name (wpAny_storeName_local (lookup_relabel_local hx) (hn'.at' fun o e => hk₂ _ o (by simpa using Ne.symm hIC) e) (fun h₃ hn₃ hs₃ => ?_) (by simp [compEnvC, relabel, hkind]))
        refine wpAny_tests_nil ?_
        simp only [if_true]
        have hst₃ : IsRangeIter h₃ I (a + ((i + 1 : Nat) : Int) * 1) ((n : Int) - (i + 1 : Nat)) 1 := (hs₃.2 _ hIC).trans hst₂
        obtain ⟨oC, heC, hoC⟩ := ns_obj hn₃
        have F₃ : Fr h₀ L h₃ m := (fr_but F' hk₂ hL.1 hI₀).change hs₃ (Ne.symm hL.2.1) hC₀
        have N₂ : News h₀ L h₂ ((D, lst ys) :: news) := news_but N' hk₂ fun p hp => by
          rcases List.mem_cons.mp hp with rfl | hp
          · exact Ne.symm hID
          · exact (off p hp).1
        have N₃ : News h₀ L h₃ ((I, _) :: (C, oC) :: (D, lst ys) :: news) := fun p hp => by
          rcases List.mem_cons.mp hp with rfl | hp
          · exact ⟨hst₃, Ne.symm hL.1, hI₀⟩
          · rcases List.mem_cons.mp hp with rfl | hp
            · exact ⟨heC, Ne.symm hL.2.1, hC₀⟩
            · have z := N₂ p hp
              refine ⟨hs₃.extBut _ _ ?_ z.1, z.2⟩
              rcases List.mem_cons.mp hp with rfl | hp
              · exact hDC
              · exact (off p hp).2.1
        refine wpAny_with_toks (n := tk₂) (Nat.le_succ _) (wpAny_mono (turn i t' I _ C oC D _ h₃ _ ys _ hlt (Nat.le_trans hTk (Nat.le_succ_of_le htk₂)) hoC (by simp) F₃ N₃ (Off3.of off) ⟨hIC, hID, Ne.symm hDC⟩) (fun y s₄ h₄ htk₄ => ?_) fun _ _ e _ => e)
        obtain ⟨h₄, tk₄, rfl, F₄, N₄, hPy⟩ := h₄
        have htk₄' : tk ≤ tk₄ := Nat.le_trans htk₂ htk₄
        have zI := (N₄ (I, _) List.mem_cons_self).1
        have zC := (N₄ (C, oC) (List.mem_cons_of_mem _ List.mem_cons_self)).1
        have zD := (N₄ (D, lst ys) (List.mem_cons_of_mem _ (List.mem_cons_of_mem _ List.mem_cons_self))).1
        refine append_at (hsz := by show ys.toArray.size ≤ sizeLine; rw [List.size_toArray, hyl, sizeLine_eq]; omega) zD fun h₅ hs₅ hD₅ => ?_
        refine ⟨n + 1 - (i + 1), by omega, h₅, tk₄, i + 1, ys ++ [y], _, rfl, Nat.le_trans hTk htk₄', hlt, rfl, by rw [List.length_append, List.length_singleton, hyl], (hs₅.2 _ hID).trans zI, F₄.change hs₅ (Ne.symm hL.2.2) hD₀,
          (hoC.ns zC).sameBut hs₅ (Ne.symm hDC), fun p hp => ?_, fun j y' hy' => ?_⟩
        · rcases List.mem_cons.mp hp with rfl | hp
          · exact ⟨hD₅.trans (congrArg some (lst_snoc ys y)), Ne.symm hL.2.2, hD₀⟩
          · have z := N₄ p (List.mem_cons_of_mem _ (List.mem_cons_of_mem _ (List.mem_cons_of_mem _ hp)))
            exact ⟨hs₅.extBut _ _ (off p hp).2.2 z.1, z.2⟩
        · by_cases hj : j < ys.length
          · rw [List.getElem?_append_left hj] at hy'
            exact mono _ _ _ _ htk₄' (hP' j y' hy')
          · rw [List.getElem?_append_right (Nat.not_lt.mp hj)] at hy'
            have hj2 : j = ys.length := by
              have := (List.getElem?_eq_some_iff.mp hy').1
              simp only [List.length_singleton] at this
              omega
            subst hj2
            simp only [Nat.sub_self, List.getElem?_cons_zero, Option.some.injEq] at hy'
            subst hy'
            rw [hyl]
            exact hPy
      · obtain rfl : i = n := Nat.le_antisymm hi (Nat.not_lt.mp hlt)
        refine wpAny_with_toks (n := tk) (Nat.le_refl _) (W.done _ _ _ hst' fun h₂ tk₂ hk₂ htk₂ => ?_)
        have F₂ := fr_but F' hk₂ hL.1 hI₀
        have N₂ : News h₀ L h₂ ((D, lst ys) :: news) := news_but N' hk₂ fun p hp => by
          rcases List.mem_cons.mp hp with rfl | hp
          · exact Ne.symm hID
          · exact (off p hp).1
        refine ⟨_, hn'.at' fun o e => hk₂ _ o (by simpa using Ne.symm hIC) e, fun h'' hs'' => fin D h'' tk₂ ys (Nat.le_trans hTk htk₂) hyl (fun j y hy => mono _ _ _ _ htk₂ (hP' j y hy)) (F₂.change hs'' (Ne.symm hL.2.1) hC₀) (fun p hp => ?_) fun p hp => ?_⟩
        · refine ⟨hs''.extBut _ _ ?_ (N₂ p hp).1, (N₂ p hp).2⟩
          rcases List.mem_cons.mp hp with rfl | hp
          · exact hDC
          · exact (off p hp).2.1
        · rw [hz1]; exact Nat.lt_succ_of_lt (nlt p hp)
    · rcases List.mem_cons.mp hp with rfl | hp
      · exact ⟨hacc, Ne.symm hL.2.2, hD₀⟩
      · exact ⟨old _ _ (N p hp).1, (N p hp).2⟩
  have hl := loop _ ⟨_, rfl, hTs⟩
  exact codeAny_compStart_list hl (W.self 0 _ _ _ hst₁ hl)
theorem rest_of {elt : Expr} {x : Str} {scope : Scope} {cl : List (Str × Addr)} {a : Int} {n : Nat} {news : List (Addr × Obj)} {Pv : Nat → Value → Nat → Prop} {Fin : List Value → List (Addr × Obj) → Prop}
    (turn : TurnT prog w A h₀ L m env elt x scope cl s a n 0 news Pv) (hPv : ∀ i y k, Pv i y k → Pv i y 0) (fin : ∀ ys, ys.length = n → (∀ j y, ys[j]? = some y → Pv j y 0) → Fin ys news) :
    ∀ (k i : Nat) (ys : List Value), i + k = n → ys.length = i → (∀ j y, ys[j]? = some y → Pv j y 0) → CompRest prog w A h₀ L m env elt x scope cl s (fun _ => True) (fun i v => ∃ t, v = .int (a + (i : Int)) t) Fin k i ys news
  | 0, i, ys, e, hl, hP => CompRest.zero (fin ys (by omega) hP)
  | k + 1, i, ys, e, hl, hP => by
    refine CompRest.succ ?_
    rintro v I oI C oC D m₂ h tk E' ⟨t, rfl⟩ hC hm F N off hne
    refine wpAny_mono (turn i t I oI C oC D m₂ h tk ys E' (by omega) (Nat.zero_le _) hC hm F N off hne) (fun y s₄ h₄ => ?_) fun _ _ e => e
    obtain ⟨h', tk', rfl, F', N', hy⟩ := h₄
    refine ⟨h', tk', news, rfl, F', N', off, trivial, rest_of turn hPv fin k (i + 1) (ys ++ [y]) (by omega) (by rw [List.length_append, List.length_singleton, hl]) fun j y' hj => ?_⟩
    by_cases hlt : j < ys.length
    · rw [List.getElem?_append_left hlt] at hj
      exact hP j y' hj
    · rw [List.getElem?_append_right (Nat.not_lt.mp hlt)] at hj
      have hj2 : j = ys.length := by
        have := (List.getElem?_eq_some_iff.mp hj).1
        simp only [List.length_singleton] at this
        omega
      subst hj2
      simp only [Nat.sub_self, List.getElem?_cons_zero, Option.some.injEq] at hj
      subst hj
      rw [hl]
      exact hPv _ _ _ hy
end

end

/-! text: wordel -/
section
/-! ## the words' elements -/
noncomputable def WordAt (i : Nat) (y : Value) (k : Nat) : Prop := ∃ t : Tok, y = .str (wordN (10 + i)) t ∧ 245 ≤ t ∧ t < k
theorem wordAt_mono : ∀ i y k k', k ≤ k' → WordAt i y k → WordAt i y k' := fun _ _ _ _ h ⟨t, e, a, b⟩ => ⟨t, e, a, Nat.lt_of_lt_of_le b h⟩
section
variable {prog : Program} {w : World} {A : Around} {E : Value → Shared → Prop} {s : Shared} {Q : Value → Shared → Prop} {x y : Str} {t u : Tok}
theorem add_T (T : Nat) (hT : T ≤ s.toks) (hsz : x.length + y.length ≤ 1000) (h : ∀ t' k, T ≤ k → Q (.str (x ++ y) t') { s with toks := k }) : wpAny (model prog w) A (binaryOp .Add (.str x t) (.str y u)) Q E s :=
  wpAny_with_toks hT (SBL.add (fun t' k _ htk => h t' k htk) (by rw [sizeLine_eq]; omega))
theorem add_fresh (hx : x.length ≠ 0) (hy : y.length ≠ 0) (hsz : (x ++ y).length ≤ 1000) (h : Q (.str (x ++ y) s.toks) { s with toks := s.toks + 1 }) : wpAny (model prog w) A (binaryOp .Add (.str x t) (.str y u)) Q E s := by
  refine P.add_str ?_
  rw [if_neg (by simpa using hx), if_neg (by simpa using hy)]
  exact ⟨by rw [sizeLine_eq]; omega, h⟩
theorem mulstr_T {n : Int} (T : Nat) (hT : T ≤ s.toks) (hok : MulOk x n) (h : ∀ t' k, T ≤ k → Q (.str (Txt.mul x n) t') { s with toks := k }) : wpAny (model prog w) A (binaryOp .Mult (.str x t) (.int n u)) Q E s :=
  wpAny_with_toks hT (SB.mul hok (fun t' k htk => h t' k htk))
end
theorem word_facts : ∀ i : Fin 22, (Str.ofString "0x" ++ Txt.item (Str.ofString "1248") (Int.fmod (10 + (i.val : Int)) 4)).length ≠ 0 ∧ (Txt.mul (Str.ofString "0") (Int.fdiv (10 + (i.val : Int)) 4)).length ≠ 0 ∧ ((Str.ofString "0x" ++ Txt.item (Str.ofString "1248") (Int.fmod (10 + (i.val : Int)) 4)) ++ Txt.mul (Str.ofString "0") (Int.fdiv (10 + (i.val : Int)) 4)) = wordN (10 + i.val) ∧ (wordN (10 + i.val)).length ≤ 1000 ∧ Int.fdiv (10 + (i.val : Int)) 4 ≤ ((16 : Nat) : Int) ∧ -(2 ^ 63 : Int) ≤ Int.fdiv (10 + (i.val : Int)) 4 ∧ (Str.ofString "0x").length + (Txt.item (Str.ofString "1248") (Int.fmod (10 + (i.val : Int)) 4)).length ≤ 1000 := by decide +kernel
theorem word_mul {i : Nat} (hi : i < 22) : MulOk (Str.ofString "0") (Int.fdiv (10 + (i : Int)) 4) :=
  let h := word_facts ⟨i, hi⟩
  mulOk_of 1 16 (by decide) h.2.2.2.2.1 h.2.2.2.2.2.1 (by decide) (by decide)
theorem word_add {i : Nat} (hi : i < 22) : (Str.ofString "0x").length + (Txt.item (Str.ofString "1248") (Int.fmod (10 + (i : Int)) 4)).length ≤ 1000 := (word_facts ⟨i, hi⟩).2.2.2.2.2.2
theorem word_end {prog : Program} {w : World} {A : Around} {E : Value → Shared → Prop} {s : Shared} {Q : Value → Shared → Prop} {t u : Tok} {i : Nat} (hi : i < 22) (h : Q (.str (wordN (10 + i)) s.toks) { s with toks := s.toks + 1 }) :
    wpAny (model prog w) A (binaryOp .Add (.str (Str.ofString "0x" ++ Txt.item (Str.ofString "1248") (Int.fmod (10 + (i : Int)) 4)) t) (.str (Txt.mul (Str.ofString "0") (Int.fdiv (10 + (i : Int)) 4)) u)) Q E s := by
  obtain ⟨wf1, wf2, wf3, wf4, _⟩ := word_facts ⟨i, hi⟩
  refine add_fresh wf1 wf2 (by rw [wf3]; exact wf4) ?_
  rw [wf3]; exact h
/-- the thirty-two words, their tokens known -/
noncomputable def WordsOk (T : Nat) (l : List (Str × Tok)) : Prop := l.map (·.1) = (List.range 32).map wordN ∧ ∀ p ∈ l, 245 ≤ p.2 ∧ p.2 < T
theorem wordsOk_mono {T T' : Nat} {l : List (Str × Tok)} (h : T ≤ T') (w : WordsOk T l) : WordsOk T' l := ⟨w.1, fun p hp => ⟨(w.2 p hp).1, Nat.lt_of_lt_of_le (w.2 p hp).2 h⟩⟩
theorem words_tail {k : Nat} : ∀ (ys : List Value) (b : Nat), (∀ j y, ys[j]? = some y → WordAt (b + j) y k) → ∃ l : List (Str × Tok), ys = strValues l ∧ l.map (·.1) = (List.range ys.length).map (fun j => wordN (10 + (b + j))) ∧ ∀ p ∈ l, 245 ≤ p.2 ∧ p.2 < k
  | [], _, _ => ⟨[], rfl, rfl, fun _ h => nomatch h⟩
  | y :: ys, b, h => by
    obtain ⟨t, rfl, h1, h2⟩ := h 0 y rfl
    obtain ⟨l, e1, e2, e3⟩ := words_tail ys (b + 1) fun j y hj => by
      have := h (j + 1) y hj
      rw [show b + (j + 1) = b + 1 + j by omega] at this
      exact this
    refine ⟨(wordN (10 + (b + 0)), t) :: l, by rw [e1]; rfl, ?_, fun p hp => ?_⟩
    · rw [List.map_cons, e2, List.length_cons, List.range_succ_eq_map, List.map_cons, List.map_map]
      congr 1
      apply List.map_congr_left
      intro j _
      show _ = wordN (10 + (b + (j + 1)))
      congr 1; omega
    · rcases List.mem_cons.mp hp with rfl | hp
      · exact ⟨h1, h2⟩
      · exact e3 p hp
theorem words_of {ys : List Value} {k t : Nat} (ht : 245 ≤ t) (hk : t + 1 + 1 + 1 + 1 + 1 + 1 + 1 + 1 + 1 + 1 + 1 ≤ k) (hl : ys.length = 22) (h : ∀ j y, ys[j]? = some y → WordAt j y k) :
    ∃ l : List (Str × Tok), [Value.str "OPTIMIZED" t, .str "NEWLOCALS" (t + 1), .str "VARARGS" (t + 1 + 1), .str "VARKEYWORDS" (t + 1 + 1 + 1), .str "NESTED" (t + 1 + 1 + 1 + 1), .str "GENERATOR" (t + 1 + 1 + 1 + 1 + 1), .str "NOFREE" (t + 1 + 1 + 1 + 1 + 1 + 1), .str "COROUTINE" (t + 1 + 1 + 1 + 1 + 1 + 1 + 1), .str "ITERABLE_COROUTINE" (t + 1 + 1 + 1 + 1 + 1 + 1 + 1 + 1 + 1), .str "ASYNC_GENERATOR" (t + 1 + 1 + 1 + 1 + 1 + 1 + 1 + 1 + 1 + 1)] ++ ys = strValues l ∧ WordsOk k l := by
  obtain ⟨l, e1, e2, e3⟩ := words_tail ys 0 fun j y hj => by rw [Nat.zero_add]; exact h j y hj
  refine ⟨([("OPTIMIZED", t), ("NEWLOCALS", t + 1), ("VARARGS", t + 1 + 1), ("VARKEYWORDS", t + 1 + 1 + 1), ("NESTED", t + 1 + 1 + 1 + 1), ("GENERATOR", t + 1 + 1 + 1 + 1 + 1), ("NOFREE", t + 1 + 1 + 1 + 1 + 1 + 1), ("COROUTINE", t + 1 + 1 + 1 + 1 + 1 + 1 + 1), ("ITERABLE_COROUTINE", t + 1 + 1 + 1 + 1 + 1 + 1 + 1 + 1 + 1), ("ASYNC_GENERATOR", t + 1 + 1 + 1 + 1 + 1 + 1 + 1 + 1 + 1 + 1)] : List (Str × Tok)) ++ l, by rw [e1]; rfl, ?_, ?_⟩
  · rw [List.map_append, e2, hl]
    kernel_rfl
  · intro p hp
    rcases List.mem_append.mp hp with hp | hp
    · simp only [List.mem_cons, List.not_mem_nil, or_false] at hp
      have key : ∀ n : Nat, n ≤ 10 → 245 ≤ t + n ∧ t + n < k := fun n hn => by omega
      rcases hp with rfl | rfl | rfl | rfl | rfl | rfl | rfl | rfl | rfl | rfl
      · exact key 0 (by decide)
      · exact key 1 (by decide)
      · exact key 2 (by decide)
      · exact key 3 (by decide)
      · exact key 4 (by decide)
      · exact key 5 (by decide)
      · exact key 6 (by decide)
      · exact key 7 (by decide)
      · exact key 9 (by decide)
      · exact key 10 (by decide)
    · exact e3 p hp

end

/-! text: tab -/
section
/-! ## an item of a made tuple or list, at an open place; a store of any value -/
section
variable {prog : Program} {w : World} {A : Around} {E : Value → Shared → Prop} {s : Shared} {h₀ : Heap} {L : Addr} {m : Str → Option Value} {news news' : List (Addr × Obj)}
theorem tup_item {value slice : PySem.Expr} {D : Addr} {vs : List Value} {n : Nat} {k : Int} {u : Tok} {j : Nat} {x : Value} {Q : Value → Shared → Prop} (N : News h₀ L s.heap news) (hm : (D, ({ cls := .type "tuple", data := .seq vs.toArray n } : Obj)) ∈ news)
    (hk : k = (j : Int)) (hj : j < 1000) (hx : vs[j]? = some x) (h : Q x s)
    (hs : subscripted slice false (.ref D) (.int k u) = operate [.ref D, .int k u] (getItem (.ref D) (.int k u)) := by with_unfolding_all rfl) :
    wpAny (model prog w) A (subscriptTail value slice (.ref D) (.int k u)) Q E s := by
  subst hk
  have ht : IsTup s.heap D vs.toArray := ⟨_, (N _ hm).1, rfl, _, rfl⟩
  have hl : j < vs.length := (List.getElem?_eq_some_iff.mp hx).1
  have hq : seqIndex? (j : Int) vs.toArray.size = some j := by
    unfold seqIndex?
    simp only [if_neg (show ¬ ((j : Int) < 0) by omega)]
    rw [if_pos (by simp; omega)]
    simp
  exact tail_any ht.typeIs PySem.F.slot_tuple_getitem.lookup (PyProof.Rows.getItem_tuple ht (by omega) (by omega) hq (by simpa using hx) h) hs
theorem lst_item {value slice : PySem.Expr} {D : Addr} {vs : List Value} {n : Nat} {k : Int} {u : Tok} {j : Nat} {x : Value} {Q : Value → Shared → Prop} (N : News h₀ L s.heap news) (hm : (D, listOf vs.toArray n) ∈ news)
    (hk : k = (j : Int)) (hj : j < 1000) (hx : vs[j]? = some x) (h : Q x s)
    (hs : subscripted slice false (.ref D) (.int k u) = operate [.ref D, .int k u] (getItem (.ref D) (.int k u)) := by with_unfolding_all rfl) :
    wpAny (model prog w) A (subscriptTail value slice (.ref D) (.int k u)) Q E s := by
  subst hk
  have hl : s.heap.IsList D vs.toArray := ⟨_, (N _ hm).1, rfl, n, rfl⟩
  exact tail_any hl.typeIs PySem.F.slot_list_getitem.lookup (wpAny_getItem_list hl (by omega) (by omega) (by simpa using hx) h) hs
theorem lst_set {D : Addr} {vs : List Value} {n : Nat} {k : Int} {t : Tok} {j : Nat} {x : Value} {Q : Unit → Shared → Prop} (F : Fr h₀ L s.heap m) (N : News h₀ L s.heap news) (U : Upd D (listOf vs.toArray n) (listOf (vs.set j x).toArray n) news news') (hk : k = (j : Int)) (hj : j < vs.length) (hfit : vs.length < 1000)
    (h : ∀ h', Fr h₀ L h' m → News h₀ L h' news' → Q () { s with heap := h' }) :
    wpAny (model prog w) A (setItem (.ref D) (.int k t) x) Q E s := by
  subst hk
  obtain ⟨pre, post, rfl, rfl, a, b⟩ := U.split
  have z := N (D, listOf vs.toArray n) (List.mem_append.mpr (.inr (.head _)))
  refine ki_setAt z.1 (by omega) (by omega) (by rw [List.size_toArray]; omega) (h _ (F.change (Heap.SameBut.update ..) z.2.1 z.2.2) (ki_turn _ N a b ?_ ?_))
  · show vs.toArray.setIfInBounds (Int.toNat j) x = (vs.set j x).toArray
    apply Array.toList_inj.mp
    simp
  · simp
end
noncomputable def idxN (z : Int) : Nat := (Int.fmod (Int.fdiv z 26) 12).toNat
theorem idxN_lt (z : Int) : idxN z < 12 := by
  unfold idxN
  have h1 := Int.fmod_nonneg_of_pos (Int.fdiv z 26) (b := 12) (by decide)
  have h2 := Int.fmod_lt_of_pos (Int.fdiv z 26) (b := 12) (by decide)
  omega
theorem idxN_eq (z : Int) : Int.fmod (Int.fdiv z 26) 12 = (idxN z : Int) := by
  unfold idxN
  have h1 := Int.fmod_nonneg_of_pos (Int.fdiv z 26) (b := 12) (by decide)
  omega
theorem steps_at {t1 t2 t3 t4 t5 t6 t7 t8 t9 t10 t11 t12 : Tok} {j : Nat} (hj : j < 12) : ∃ t, [Value.int 1 t1, .int 3 t2, .int 5 t3, .int 7 t4, .int 9 t5, .int 11 t6, .int 15 t7, .int 17 t8, .int 19 t9, .int 21 t10, .int 23 t11, .int 25 t12][j]? = some (.int (stepN j : Int) t) :=
  ⟨[t1, t2, t3, t4, t5, t6, t7, t8, t9, t10, t11, t12].getD j 0, by
    have h : ∀ (l : List Nat) (ts : List Tok) (j : Nat), j < l.length → ts.length = l.length → ((List.zipWith (fun (n : Nat) t => Value.int n t) l ts))[j]? = some (.int (l.getD j 1 : Nat) (ts.getD j 0)) := by
      intro l ts j h1 h2
      rw [List.getElem?_zipWith, List.getD_eq_getElem?_getD, List.getD_eq_getElem?_getD, List.getElem?_eq_getElem h1, List.getElem?_eq_getElem (h2 ▸ h1)]
      rfl
    exact h [1, 3, 5, 7, 9, 11, 15, 17, 19, 21, 23, 25] [t1, t2, t3, t4, t5, t6, t7, t8, t9, t10, t11, t12] j hj rfl⟩
theorem step_item {prog : Program} {w : World} {A : Around} {E : Value → Shared → Prop} {s : Shared} {h₀ : Heap} {L : Addr} {news : List (Addr × Obj)} {value slice : PySem.Expr} {D : Addr} {n : Nat} {z : Int} {u : Tok} {t1 t2 t3 t4 t5 t6 t7 t8 t9 t10 t11 t12 : Tok} {Q : Value → Shared → Prop} (N : News h₀ L s.heap news)
    (hm : (D, ({ cls := .type "tuple", data := .seq (List.toArray [Value.int 1 t1, .int 3 t2, .int 5 t3, .int 7 t4, .int 9 t5, .int 11 t6, .int 15 t7, .int 17 t8, .int 19 t9, .int 21 t10, .int 23 t11, .int 25 t12]) n } : Obj)) ∈ news)
    (h : ∀ t, Q (.int (stepN (idxN z) : Int) t) s)
    (hs : subscripted slice false (.ref D) (.int (Int.fmod (Int.fdiv z 26) 12) u) = operate [.ref D, .int (Int.fmod (Int.fdiv z 26) 12) u] (getItem (.ref D) (.int (Int.fmod (Int.fdiv z 26) 12) u)) := by with_unfolding_all rfl) :
    wpAny (model prog w) A (subscriptTail value slice (.ref D) (.int (Int.fmod (Int.fdiv z 26) 12) u)) Q E s := by
  obtain ⟨t, ht⟩ := steps_at (t1 := t1) (t2 := t2) (t3 := t3) (t4 := t4) (t5 := t5) (t6 := t6) (t7 := t7) (t8 := t8) (t9 := t9) (t10 := t10) (t11 := t11) (t12 := t12) (idxN_lt z)
  have := idxN_lt z
  exact tup_item N hm (idxN_eq z) (by omega) ht (h t) hs
theorem stepN_le (j : Nat) : (stepN j : Int) ≤ 25 := by
  have h : ∀ l : List Nat, (∀ x ∈ l, x ≤ 25) → l.getD j 1 ≤ 25 := by
    intro l hl
    rw [List.getD_eq_getElem?_getD]
    cases e : l[j]? with
    | none => decide
    | some x => exact hl x (List.mem_of_getElem? e)
  have := h [1, 3, 5, 7, 9, 11, 15, 17, 19, 21, 23, 25] (by decide)
  unfold stepN
  omega
noncomputable def remN (z : Int) : Nat := (Int.fmod z 26).toNat
theorem remN_lt (z : Int) : remN z < 26 := by
  unfold remN
  have h1 := Int.fmod_nonneg_of_pos z (b := 26) (by decide)
  have h2 := Int.fmod_lt_of_pos z (b := 26) (by decide)
  omega
theorem remN_eq (z : Int) : Int.fmod z 26 = (remN z : Int) := by
  unfold remN
  have h1 := Int.fmod_nonneg_of_pos z (b := 26) (by decide)
  omega
/-- a letter of the six -/
noncomputable def letC (z : Int) (i : Nat) : Nat := 97 + (remN z + i * stepN (idxN z)) % 26
noncomputable def LetAt (z : Int) (i : Nat) (y : Value) : Prop := ∃ t, y = .str ⟨#[letC z i]⟩ t
theorem letC_eq (z : Int) (i : Nat) : 97 + Int.fmod (z + (0 + (i : Int)) * (stepN (idxN z) : Int)) 26 = (letC z i : Int) := by
  unfold letC
  have h1 := remN_eq z
  rw [Int.fmod_eq_emod_of_nonneg _ (by decide)] at h1 ⊢
  rw [Int.zero_add]
  have e : ((i : Int) * (stepN (idxN z) : Int)) = ((i * stepN (idxN z) : Nat) : Int) := by simp
  rw [e]
  generalize i * stepN (idxN z) = q
  omega
theorem let_at {z : Int} {i : Nat} {t : Tok} : LetAt z i (.str ⟨#[Int.toNat (97 + Int.fmod (z + (0 + (i : Int)) * (stepN (idxN z) : Int)) 26)]⟩ t) := ⟨t, by rw [letC_eq, Int.toNat_natCast]⟩
noncomputable def letS (z : Int) (i : Nat) : Str := ⟨#[letC z i]⟩
theorem six_letters {z : Int} {ys : List Value} (hl : ys.length = 6) (h : ∀ j y, ys[j]? = some y → LetAt z j y) :
    ∃ ts : Nat → Tok, ys = [.str (letS z 0) (ts 0), .str (letS z 1) (ts 1), .str (letS z 2) (ts 2), .str (letS z 3) (ts 3), .str (letS z 4) (ts 4), .str (letS z 5) (ts 5)] := by
  have key : ∀ (n k : Nat) (ys : List Value), ys.length = n → (∀ j y, ys[j]? = some y → LetAt z (k + j) y) → ∃ ts : Nat → Tok, ys = (List.range' k n).map fun i => .str (letS z i) (ts i) := by
    intro n
    induction n with
    | zero => intro k ys hl _; exact ⟨fun _ => 0, lnil hl⟩
    | succ n ih =>
      intro k ys hl h
      obtain ⟨a, t, rfl, ht⟩ := lsucc hl
      obtain ⟨u, rfl⟩ := h 0 a rfl
      obtain ⟨ts, rfl⟩ := ih (k + 1) t ht fun j y hj => (Nat.add_right_comm k 1 j) ▸ h (j + 1) y hj
      refine ⟨fun i => if i = k then u else ts i, ?_⟩
      show Value.str (letS z k) u :: _ = Value.str (letS z k) (if k = k then u else ts k) :: List.map (fun i => Value.str (letS z i) (if i = k then u else ts i)) _
      rw [if_pos rfl]
      congr 1
      exact List.map_congr_left fun i hi => by rw [if_neg (Nat.ne_of_gt (List.mem_range'_1.mp hi).1)]
  exact key 6 0 ys hl fun j y hj => (Nat.zero_add j).symm ▸ h j y hj
noncomputable def oddB (z : Int) : Bool := decide (Int.fmod (Int.fdiv z 1248) 2 = 1)
noncomputable def txtC (z : Int) (ks : List (Fin 7)) : Str := ⟨(ks.map (letN (remN z) (idxN z))).toArray⟩
noncomputable def bareS (z : Int) : List Str := (bareF (oddB z)).map (txtC z)
noncomputable def markS (z : Int) : List Str := (markF (oddB z)).map (txtC z)
theorem txtC_let (z : Int) (k : Fin 7) (h : k ≠ 6) : txtC z [k] = letS z k.val := by
  unfold txtC letS letC letN
  rw [List.map_cons, List.map_nil, if_neg h]
theorem letC_zero (z : Int) : letC z 0 = 97 + remN z % 26 := by
  unfold letC; rw [Nat.zero_mul, Nat.add_zero]
theorem txtC_up (z : Int) : txtC z [6] = Txt.upper (letS z 0) := by
  unfold txtC letS
  rw [letC_zero, upper_small ⟨remN z % 26, Nat.mod_lt _ (by decide)⟩, List.map_cons, List.map_nil]
  unfold letN
  rw [if_pos rfl]
theorem txtC_nil (z : Int) : txtC z [] = Str.ofString "" := rfl
theorem bare_even {z : Int} (h : oddB z = false) : bareS z = [letS z 0, Str.ofString "", letS z 1, Str.ofString ""] := by
  unfold bareS bareF
  rw [h]
  show [txtC z [0], txtC z [], txtC z [1], txtC z []] = _
  rw [txtC_let z 0 (by decide), txtC_let z 1 (by decide), txtC_nil]
  rfl
theorem mark_even {z : Int} (h : oddB z = false) : markS z = [Txt.upper (letS z 0), letS z 3, letS z 2, letS z 4] := by
  unfold markS markF
  rw [h]
  show [txtC z [6], txtC z [3], txtC z [2], txtC z [4]] = _
  rw [txtC_let z 3 (by decide), txtC_let z 2 (by decide), txtC_let z 4 (by decide), txtC_up]
  rfl
theorem bare_odd {z : Int} (h : oddB z = true) : bareS z = [letS z 0, letS z 2, Str.ofString "", letS z 3] := by
  unfold bareS bareF
  rw [h]
  show [txtC z [0], txtC z [2], txtC z [], txtC z [3]] = _
  rw [txtC_let z 0 (by decide), txtC_let z 2 (by decide), txtC_let z 3 (by decide), txtC_nil]
  rfl
theorem mark_odd {z : Int} (h : oddB z = true) : markS z = [Txt.upper (letS z 0), letS z 4, letS z 1, letS z 5] := by
  unfold markS markF
  rw [h]
  show [txtC z [6], txtC z [4], txtC z [1], txtC z [5]] = _
  rw [txtC_let z 4 (by decide), txtC_let z 1 (by decide), txtC_let z 5 (by decide), txtC_up]
  rfl
theorem odd_of {z : Int} (h : Int.fmod (Int.fdiv z 1248) 2 = 1) : oddB z = true := by unfold oddB; rw [h]; rfl
theorem even_of {z : Int} (h : Int.fmod (Int.fdiv z 1248) 2 ≠ 1) : oddB z = false := by unfold oddB; exact decide_eq_false h
theorem lst_item0 {prog : Program} {w : World} {A : Around} {E : Value → Shared → Prop} {s : Shared} {h₀ : Heap} {L : Addr} {news : List (Addr × Obj)} {value slice : PySem.Expr} {D : Addr} {vs : List Value} {n : Nat} {k : Int} {u : Tok} {x : Value} {Q : Value → Shared → Prop} (N : News h₀ L s.heap news) (hm : (D, listOf vs.toArray n) ∈ news)
    (h0 : 0 ≤ k) (hk : k < 1000) (hx : vs[k.toNat]? = some x) (h : Q x s)
    (hs : subscripted slice false (.ref D) (.int k u) = operate [.ref D, .int k u] (getItem (.ref D) (.int k u)) := by with_unfolding_all rfl) :
    wpAny (model prog w) A (subscriptTail value slice (.ref D) (.int k u)) Q E s :=
  lst_item N hm (j := k.toNat) (by omega) (by omega) hx h hs
noncomputable def turnN (z : Int) : Nat := (Int.fmod (Int.fdiv z 312) 4).toNat
theorem turn_eq (z : Int) : Int.fmod (Int.fdiv z 312) 4 = (turnN z : Int) := by
  unfold turnN
  have h1 := Int.fmod_nonneg_of_pos (Int.fdiv z 312) (b := 4) (by decide)
  omega
theorem turn_lt (z : Int) : turnN z < 4 := by
  unfold turnN
  have h1 := Int.fmod_nonneg_of_pos (Int.fdiv z 312) (b := 4) (by decide)
  have h2 := Int.fmod_lt_of_pos (Int.fdiv z 312) (b := 4) (by decide)
  omega
noncomputable def shiftN (z : Int) : Nat := (Int.fmod (8 + Int.fdiv z 2496) 30).toNat
theorem shift_eq (z : Int) : Int.fmod (8 + Int.fdiv z 2496) 30 = (shiftN z : Int) := by
  unfold shiftN
  have h1 := Int.fmod_nonneg_of_pos (8 + Int.fdiv z 2496) (b := 30) (by decide)
  omega
theorem shift_lt (z : Int) : shiftN z < 30 := by
  unfold shiftN
  have h1 := Int.fmod_nonneg_of_pos (8 + Int.fdiv z 2496) (b := 30) (by decide)
  have h2 := Int.fmod_lt_of_pos (8 + Int.fdiv z 2496) (b := 30) (by decide)
  omega

end

/-! text: split -/
section
/-! ## a text glued of words without a comma, split again -/
section
open Builtin Builtin.Str StrLaws
noncomputable def commaL : List Nat → Nat → List Nat
  | [], _ => []
  | c :: r, i => if c = 44 ∧ r.head? = some 32 then i :: commaL r (i + 1) else commaL r (i + 1)
noncomputable def sepS : Str := ⟨#[44, 32]⟩
theorem sep_at (s : Str) (i : Nat) : (i + sepS.length ≤ s.length ∧ subAt s sepS i = true) ↔ (s.cps.toList[i]? = some 44 ∧ s.cps.toList[i + 1]? = some 32) := by
  have hl : s.length = s.cps.toList.length := by simp [Str.length]
  rw [subAt_eq, hl]
  show (i + 2 ≤ _ ∧ ((s.cps.toList.drop i).take 2 == [44, 32]) = true) ↔ _
  generalize s.cps.toList = L
  have e0 : L[i]? = (L.drop i)[0]? := by rw [List.getElem?_drop, Nat.add_zero]
  have e1 : L[i + 1]? = (L.drop i)[1]? := by rw [List.getElem?_drop]
  have e2 : i + 2 ≤ L.length ↔ 2 ≤ (L.drop i).length := by rw [List.length_drop]; constructor <;> (intro h; omega)
  rw [e0, e1, e2]
  match L.drop i with
  | [] => simp
  | [a] => simp
  | a :: b :: r => simp
theorem comma_loop (s : Str) : ∀ (k i : Nat) (acc : Array Nat) (free : Nat), i + k = s.length + 1 → acc.size ≤ i → (free ≤ i ∨ (free = i + 1 ∧ s.cps.toList[i]? = some 32)) →
    (forIn (List.range' i k) (acc, free) (occBody s sepS s.length (s.length + 1))).run.fst.toList = acc.toList ++ commaL (s.cps.toList.drop i) i
  | 0, i, acc, free, e, _, _ => by
    have hl : s.length = s.cps.toList.length := by simp [Str.length]
    rw [List.drop_eq_nil_of_le (by omega)]
    show acc.toList = acc.toList ++ []
    rw [List.append_nil]
  | k + 1, i, acc, free, e, hs, hf => by
    have hl : s.length = s.cps.toList.length := by simp [Str.length]
    rw [List.range'_succ, List.forIn_cons]
    unfold occBody
    have hat := sep_at s i
    by_cases hp : s.cps.toList[i]? = some 44 ∧ s.cps.toList[i + 1]? = some 32
    · obtain ⟨h1, h2⟩ := hat.mpr hp
      have hfree : free ≤ i := by
        rcases hf with h | ⟨_, h⟩
        · exact h
        · rw [hp.1] at h; cases h
      rw [if_pos ⟨⟨⟨by show acc.size < s.length + 1; omega, hfree⟩, h1⟩, h2⟩]
      refine (comma_loop s k (i + 1) (acc.push i) (i + sepS.length) (by omega) (by rw [Array.size_push]; omega) (.inr ⟨rfl, hp.2⟩)).trans ?_
      have hlt : i < s.cps.toList.length := (List.getElem?_eq_some_iff.mp hp.1).1
      have c1 : s.cps.toList[i] = 44 := Option.some.inj ((List.getElem?_eq_getElem hlt).symm.trans hp.1)
      have c2 : (s.cps.toList.drop (i + 1)).head? = some 32 := by rw [List.head?_drop]; exact hp.2
      rw [List.drop_eq_getElem_cons hlt, commaL, if_pos ⟨c1, c2⟩, Array.toList_push, List.append_assoc]
      rfl
    · have hn : ¬ ((((acc, free).fst.size < s.length + 1 ∧ (acc, free).snd ≤ i) ∧ i + sepS.length ≤ s.length) ∧ subAt s sepS i = true) := fun h => hp (hat.mp ⟨h.1.2, h.2⟩)
      rw [if_neg hn]
      refine (comma_loop s k (i + 1) acc free (by omega) (by omega) (by rcases hf with h | ⟨h, _⟩ <;> (left; omega))).trans ?_
      by_cases hlt : i < s.cps.toList.length
      · rw [List.drop_eq_getElem_cons hlt, commaL, if_neg]
        rintro ⟨h1, h2⟩
        rw [List.head?_drop] at h2
        exact hp ⟨by rw [List.getElem?_eq_getElem hlt, h1], h2⟩
      · rw [List.drop_eq_nil_of_le (by omega), List.drop_eq_nil_of_le (by omega)]
        rfl
theorem comma_occ (s : Str) : occurrences s sepS 0 s.length (s.length + 1) = commaL s.cps.toList 0 := by
  rw [occ_eq]
  have := comma_loop s (s.length + 1) 0 #[] 0 (by omega) (Nat.le_refl _) (.inl (Nat.le_refl _))
  rw [Nat.sub_zero, this]
  rfl
theorem comma_word {r : List Nat} : ∀ (w : List Nat) (i : Nat), 44 ∉ w → commaL (w ++ 44 :: 32 :: r) i = (i + w.length) :: commaL r (i + w.length + 2)
  | [], i, _ => by
    show (if (44 : Nat) = 44 ∧ (32 :: r).head? = some 32 then i :: commaL (32 :: r) (i + 1) else _) = _
    rw [if_pos ⟨rfl, rfl⟩]
    show i :: (if (32 : Nat) = 44 ∧ r.head? = some 32 then _ else commaL r (i + 1 + 1)) = _
    rw [if_neg (by simp)]
    rfl
  | c :: w, i, h => by
    show (if c = 44 ∧ _ then _ else commaL (w ++ 44 :: 32 :: r) (i + 1)) = _
    rw [if_neg (fun q => h (by rw [← q.1]; exact List.mem_cons_self ..)), comma_word w (i + 1) (fun q => h (List.mem_cons_of_mem _ q)), List.length_cons]
    congr 1
    · omega
    · congr 1; omega
theorem comma_none : ∀ (w : List Nat) (i : Nat), 44 ∉ w → commaL w i = []
  | [], _, _ => rfl
  | c :: w, i, h => by
    show (if c = 44 ∧ _ then _ else commaL w (i + 1)) = _
    rw [if_neg (fun q => h (by rw [← q.1]; exact List.mem_cons_self ..)), comma_none w (i + 1) (fun q => h (List.mem_cons_of_mem _ q))]
noncomputable def glueL : List Str → List Nat
  | [] => []
  | [w] => w.cps.toList
  | w :: ws => w.cps.toList ++ 44 :: 32 :: glueL ws
theorem glue_cps : ∀ ws : List Str, (Str.join sepS ws).cps.toList = glueL ws
  | [] => rfl
  | [w] => rfl
  | w :: v :: ws => by
    show (w ++ sepS ++ Str.join sepS (v :: ws)).cps.toList = w.cps.toList ++ 44 :: 32 :: glueL (v :: ws)
    rw [← glue_cps (v :: ws)]
    show ((w.cps ++ sepS.cps) ++ (Str.join sepS (v :: ws)).cps).toList = _
    rw [Array.toList_append, Array.toList_append, List.append_assoc]
    rfl
theorem parts_words (x : Str) : ∀ (ws : List Str) (a : Nat), ws ≠ [] → (∀ w ∈ ws, 44 ∉ w.cps.toList) → x.cps.toList.drop a = glueL ws → partsFrom x 2 a (commaL (glueL ws) a) = ws
  | [], _, h, _, _ => absurd rfl h
  | [w], a, _, hw, e => by
    show partsFrom x 2 a (commaL w.cps.toList a) = _
    rw [comma_none _ _ (hw w (List.mem_singleton.mpr rfl))]
    show [strSub x a x.length] = [w]
    congr 1
    have hl : x.length = x.cps.toList.length := by simp [Str.length]
    apply Str.ext'
    apply Array.toList_inj.mp
    rw [strSub_toList, e, List.take_of_length_le]
    · rfl
    · have := congrArg List.length e
      rw [List.length_drop] at this
      rw [hl]
      exact Nat.le_of_eq this.symm
  | w :: v :: ws, a, _, hw, e => by
    have e' : x.cps.toList.drop a = w.cps.toList ++ 44 :: 32 :: glueL (v :: ws) := e
    show partsFrom x 2 a (commaL (w.cps.toList ++ 44 :: 32 :: glueL (v :: ws)) a) = _
    rw [comma_word _ _ (hw w (List.mem_cons_self ..))]
    show strSub x a (a + w.cps.toList.length) :: partsFrom x 2 (a + w.cps.toList.length + 2) (commaL (glueL (v :: ws)) (a + w.cps.toList.length + 2)) = _
    rw [parts_words x (v :: ws) (a + w.cps.toList.length + 2) (by simp) (fun u hu => hw u (List.mem_cons_of_mem _ hu)) (by
      rw [Nat.add_assoc, ← List.drop_drop, e', ← List.drop_drop, List.drop_left]; rfl)]
    congr 1
    apply Str.ext'
    apply Array.toList_inj.mp
    rw [strSub_toList, e', Nat.add_sub_cancel_left, List.take_left]
theorem split_words (ws : List Str) (h0 : ws ≠ []) (hw : ∀ w ∈ ws, 44 ∉ w.cps.toList) : Txt.split (Txt.join sepS ws) sepS = ws := by
  have ej : Txt.join sepS ws = Str.join sepS ws := glued_eq_join sepS ws
  rw [ej]
  have hp := parts_words (Str.join sepS ws) ws 0 h0 hw (by rw [List.drop_zero, glue_cps])
  have hk : decide (PySem.Builtin.Str.strKind (Str.join sepS ws) < PySem.Builtin.Str.strKind sepS) = false := by
    have := strKind_pos (Str.join sepS ws)
    have e : PySem.Builtin.Str.strKind sepS = 1 := by decide +kernel
    rw [e]
    exact decide_eq_false (by omega)
  unfold Txt.split
  rw [hk, Bool.or_false]
  split
  · rename_i hlt
    have hlt' : (Str.join sepS ws).length < 2 := of_decide_eq_true hlt
    match ws, h0 with
    | [w], _ => rfl
    | w :: v :: ws, _ =>
      exfalso
      have := glue_cps (w :: v :: ws)
      have h3 := congrArg List.length this
      simp only [glueL, List.length_append, List.length_cons] at h3
      have h4 : (Str.join sepS (w :: v :: ws)).length = (Str.join sepS (w :: v :: ws)).cps.toList.length := by simp [Str.length]
      omega
  · rw [comma_occ, glue_cps]
    split
    · rename_i hem
      have : commaL (glueL ws) 0 = [] := by simpa using hem
      rw [this] at hp
      rw [← hp]
      show [_] = [strSub _ 0 _]
      rw [hp, sub_whole]
    · rw [partsBetween_eq]
      exact hp
end
theorem sep_eq : Str.ofString ", " = sepS := by decide
theorem word_comma : ∀ k : Fin 32, 44 ∉ (wordN k).cps.toList := by decide +kernel
theorem told_back {z : Nat} (hz : z < 2 ^ 32) : Txt.split (Txt.join (Str.ofString ", ") (toldWords z)) (Str.ofString ", ") = toldWords z := by
  rw [sep_eq]
  refine split_words _ ?_ ?_
  · unfold toldWords
    split
    · simp
    · rename_i h
      intro e
      rw [List.map_eq_nil_iff, List.filter_eq_nil_iff] at e
      apply h
      apply Nat.eq_of_testBit_eq
      intro j
      rw [Nat.zero_testBit]
      by_cases hj : j < 32
      · have := e j (List.mem_range.mpr hj); simpa using this
      · exact Nat.testBit_lt_two_pow (Nat.lt_of_lt_of_le hz (Nat.pow_le_pow_right (by decide) (by omega)))
  · intro w hw
    unfold toldWords at hw
    split at hw
    · rw [List.mem_singleton.mp hw]; decide
    · obtain ⟨k, hk, rfl⟩ := List.mem_map.mp hw
      exact word_comma ⟨k, List.mem_range.mp (List.mem_filter.mp hk).1⟩

end

/-! text: ptext -/
section
/-! ## the texts of the numbers, piece by piece -/
noncomputable def bitsN (i : Nat) : List Nat := (List.range 3).filter (i.testBit ·)
noncomputable def toldN (i sh : Nat) : Str := Txt.join (Str.ofString ", ") (toldWords (i * 2 ^ sh))
theorem told_bits : ∀ (i : Fin 8) (sh : Fin 30), i.val ≠ 0 → toldWords (i.val * 2 ^ sh.val) = (bitsN i).map (fun b => wordN (sh.val + b)) := by decide +kernel
theorem told_ne : ∀ (i : Fin 8) (sh : Fin 30), (toldN i sh == Str.ofString "0x0") = decide (i.val = 0) := by decide +kernel
theorem told_len : ∀ (i : Fin 8) (sh : Fin 30), (toldN i sh).length ≤ 100 := by decide +kernel
theorem word_inj : ∀ (i j : Fin 32), wordN i = wordN j → i = j := by decide +kernel
theorem bits_lt {i b : Nat} (h : b ∈ bitsN i) : b < 3 := List.mem_range.mp (List.mem_filter.mp h).1
noncomputable def placeBit (p : Nat) : Nat := if p = 0 then 0 else if p = 2 then 1 else 2
noncomputable def placesOf (b : Nat) : List Nat := if b = 0 then [0] else if b = 1 then [2] else [1, 3]
noncomputable def pieceS (z : Int) (bs : List Nat) : List Str := (List.range 4).map fun p => if placeBit p ∈ bs then (markS z).getD p (Str.ofString "") else (bareS z).getD p (Str.ofString "")
theorem bare_len (z : Int) : (bareS z).length = 4 := by
  unfold bareS bareF; cases oddB z <;> rfl
theorem mark_len (z : Int) : (markS z).length = 4 := by
  unfold markS markF; cases oddB z <;> rfl
theorem piece_nil (z : Int) : pieceS z [] = bareS z := by
  unfold pieceS bareS bareF
  cases oddB z <;> rfl
theorem piece_len (z : Int) (bs : List Nat) : (pieceS z bs).length = 4 := by unfold pieceS; rw [List.length_map, List.length_range]
noncomputable def setAll (m : List Str) : List Nat → List Str → List Str
  | [], l => l
  | p :: ps, l => setAll m ps (l.set p (m.getD p (Str.ofString "")))
theorem setAll_snoc (m : List Str) : ∀ (ps : List Nat) (p : Nat) (l : List Str), setAll m (ps ++ [p]) l = (setAll m ps l).set p (m.getD p (Str.ofString ""))
  | [], _, _ => rfl
  | _ :: ps, p, l => setAll_snoc m ps p _
theorem piece_set (z : Int) (bs : List Nat) {b : Nat} (hb : b < 3) : setAll (markS z) (placesOf b) (pieceS z bs) = pieceS z (bs ++ [b]) := by
  have m0 : ∀ x : Nat, (x ∈ bs ++ [b]) ↔ (x ∈ bs ∨ x = b) := fun x => by simp
  match b, hb with
  | 0, _ => unfold pieceS; simp only [m0]; simp [setAll, placesOf, placeBit, List.range_succ]
  | 1, _ => unfold pieceS; simp only [m0]; simp [setAll, placesOf, placeBit, List.range_succ]
  | 2, _ => unfold pieceS; simp only [m0]; simp [setAll, placesOf, placeBit, List.range_succ]
theorem setAll_len (m : List Str) : ∀ (ps : List Nat) (l : List Str), (setAll m ps l).length = l.length
  | [], _ => rfl
  | _ :: ps, l => (setAll_len m ps _).trans (List.length_set ..)
theorem places_lt {b p : Nat} (h : p ∈ placesOf b) : p < 4 := by
  unfold placesOf at h
  split at h
  · rw [List.mem_singleton.mp h]; decide
  · split at h
    · rw [List.mem_singleton.mp h]; decide
    · simp only [List.mem_cons, List.not_mem_nil, or_false] at h; omega
noncomputable def textC (z : Int) (i : Nat) : Str := txtC z (textF (oddB z) (turnN z) i)
theorem txtC_app (z : Int) (a b : List (Fin 7)) : txtC z (a ++ b) = txtC z a ++ txtC z b := by
  unfold txtC
  rw [List.map_append]
  show _ = Str.mk (_ ++ _)
  simp
theorem piece_all (z : Int) (i : Nat) : pieceS z (bitsN i) = [txtC z (pieceF (oddB z) i 0), txtC z (pieceF (oddB z) i 1), txtC z (pieceF (oddB z) i 2), txtC z (pieceF (oddB z) i 3)] := by
  have m0 : ∀ x : Nat, x < 3 → ((x ∈ bitsN i) ↔ (i.testBit x = true)) := fun x hx => by unfold bitsN; simp [hx]
  unfold pieceS markS bareS pieceF bitOf
  have e0 := m0 0 (by decide)
  have e1 := m0 1 (by decide)
  have e2 := m0 2 (by decide)
  cases oddB z <;> simp only [List.range_succ, List.range_zero, List.nil_append, List.cons_append, List.map_cons, List.map_nil, placeBit, markF, bareF] <;> simp [e0, e1, e2] <;> (refine ⟨?_, ?_, ?_, ?_⟩ <;> split <;> rfl)
theorem join4 (a b c d : Str) : Txt.join (Str.ofString "") [a, b, c, d] = a ++ (b ++ (c ++ d)) := by
  show Builtin.Str.glued (Str.ofString "") [a, b, c, d] = _
  rw [StrLaws.glued_eq_join]
  show a ++ Str.ofString "" ++ (b ++ Str.ofString "" ++ (c ++ Str.ofString "" ++ d)) = _
  apply ext_toList
  simp only [cps_toList_append, KWk.none_list, List.append_nil]
theorem join_text (z : Int) (i : Nat) : Txt.join (Str.ofString "") ((pieceS z (bitsN i)).drop (turnN z) ++ (pieceS z (bitsN i)).take (turnN z)) = textC z i := by
  rw [piece_all]
  have key : ∀ t : Nat, t < 4 → Txt.join (Str.ofString "") (([txtC z (pieceF (oddB z) i 0), txtC z (pieceF (oddB z) i 1), txtC z (pieceF (oddB z) i 2), txtC z (pieceF (oddB z) i 3)]).drop t ++ ([txtC z (pieceF (oddB z) i 0), txtC z (pieceF (oddB z) i 1), txtC z (pieceF (oddB z) i 2), txtC z (pieceF (oddB z) i 3)]).take t) = txtC z (textF (oddB z) t i) := by
    intro t ht
    have e : ∀ a b c d : List (Fin 7), txtC z a ++ (txtC z b ++ (txtC z c ++ txtC z d)) = txtC z (a ++ (b ++ (c ++ (d ++ [])))) := fun a b c d => by
      rw [List.append_nil, txtC_app, txtC_app, txtC_app]
    match t, ht with
    | 0, _ => exact (join4 _ _ _ _).trans (e _ _ _ _)
    | 1, _ => exact (join4 _ _ _ _).trans (e _ _ _ _)
    | 2, _ => exact (join4 _ _ _ _).trans (e _ _ _ _)
    | 3, _ => exact (join4 _ _ _ _).trans (e _ _ _ _)
  exact key (turnN z) (turn_lt z)
theorem strs_fit {l : List (Str × Tok)} (h : l.length ≤ 100) : (strValues l).toArray.size ≤ sizeLine := by
  rw [List.size_toArray, strValues, List.length_map, sizeLine_eq]; omega
theorem wordsOk_ge {T : Nat} {l : List (Str × Tok)} (h : WordsOk T l) : 245 ≤ T := by
  obtain ⟨h1, h2⟩ := h
  obtain ⟨p, r, rfl, _⟩ := lsucc (n := 31) (l := l) (by rw [← List.length_map (f := Prod.fst), h1, List.length_map, List.length_range])
  have := h2 p (List.mem_cons_self ..)
  exact Nat.le_of_lt (Nat.lt_of_le_of_lt this.1 this.2)
theorem len_of_map {l : List (Str × Tok)} {k : List Str} {n : Nat} (h : l.map (·.1) = k) (hk : k.length = n) : l.length = n := by rw [← hk, ← h, List.length_map]
theorem bits3 : ∀ i : Fin 8, Builtin.Int.intBits (0 + (i.val : Int)) ≤ 3 := by decide +kernel
theorem told_lt32 {i sh : Nat} (hi : i < 8) (hs : sh < 30) : i * 2 ^ sh < 2 ^ 32 := by
  have h1 : 2 ^ sh ≤ 2 ^ 29 := Nat.pow_le_pow_right (by decide) (by omega)
  have h2 : i * 2 ^ sh ≤ 7 * 2 ^ 29 := Nat.mul_le_mul (by omega) h1
  omega
theorem told_fit {i sh : Nat} (hi : i < 8) (hs : sh < 30) : (Txt.join (Str.ofString ", ") (toldWords (i * 2 ^ sh))).length + 2 ≤ sizeLine := by
  have h := told_len ⟨i, hi⟩ ⟨sh, hs⟩
  have e := sizeLine_eq
  unfold toldN at h
  dsimp only at h
  omega
/-- the words that tell of the bits -/
noncomputable def saidW (i sh : Nat) : List Str := if i = 0 then [Str.ofString "0x0"] else (bitsN i).map fun b => wordN (sh + b)
theorem said_eq {i sh : Nat} (hi : i < 8) (hs : sh < 30) : toldWords (i * 2 ^ sh) = saidW i sh := by
  unfold saidW
  split
  · rename_i h; subst h; rw [Nat.zero_mul]; rfl
  · rename_i h; exact told_bits ⟨i, hi⟩ ⟨sh, hs⟩ h
theorem told_zero {i sh : Nat} (hi : i < 8) (hs : sh < 30) (h : i = 0) : Txt.join (Str.ofString ", ") (toldWords (i * 2 ^ sh)) = Str.ofString "0x0" := by
  have := told_ne ⟨i, hi⟩ ⟨sh, hs⟩
  dsimp only at this
  rw [decide_eq_true h] at this
  exact eq_of_beq this
theorem told_nz {i sh : Nat} (hi : i < 8) (hs : sh < 30) (h : i ≠ 0) : (Txt.join (Str.ofString ", ") (toldWords (i * 2 ^ sh)) == Str.ofString "0x0") = false := by
  have := told_ne ⟨i, hi⟩ ⟨sh, hs⟩
  dsimp only at this
  rw [decide_eq_false h] at this
  exact this
/-- the state of the pieces before the j-th word -/
noncomputable def doneB (i j : Nat) : List Nat := if i = 0 then [] else (bitsN i).take j
theorem done_zero (i : Nat) : doneB i 0 = [] := by unfold doneB; split <;> rfl
theorem done_all (i : Nat) (sh : Nat) : doneB i (saidW i sh).length = bitsN i := by
  unfold doneB saidW
  split
  · rename_i h; subst h; rfl
  · rw [List.length_map, List.take_length]
theorem done_none {i j : Nat} (h : i = 0) : doneB i (j + 1) = doneB i j := by unfold doneB; rw [if_pos h, if_pos h]
theorem done_step {i j sh : Nat} {x : Str} (h : i ≠ 0) (hx : (saidW i sh)[j]? = some x) : ∃ b, b < 3 ∧ x = wordN (sh + b) ∧ doneB i (j + 1) = doneB i j ++ [b] := by
  unfold saidW at hx
  unfold doneB
  rw [if_neg h] at hx
  rw [if_neg h, if_neg h]
  rw [List.getElem?_map] at hx
  cases e : (bitsN i)[j]? with
  | none => rw [e] at hx; cases hx
  | some b =>
    rw [e] at hx
    refine ⟨b, bits_lt (List.mem_of_getElem? e), by cases hx; rfl, ?_⟩
    rw [List.take_add_one, e]
    rfl
theorem strs_get {l : List (Str × Tok)} {j : Nat} {v : Value} (h : (strValues l)[j]? = some v) : ∃ p, l[j]? = some p ∧ v = .str p.1 p.2 := by
  unfold strValues at h
  rw [List.getElem?_map] at h
  cases e : l[j]? with
  | none => rw [e] at h; cases h
  | some p => rw [e] at h; exact ⟨p, rfl, by cases h; rfl⟩
theorem told_nz' {i sh : Nat} (hi : i < 8) (hs : sh < 30) (h : i ≠ 0) : (Txt.join (Str.ofString ", ") (toldWords (i * 2 ^ sh)) != Str.ofString "0x0") = true := by
  unfold bne; rw [told_nz hi hs h]; rfl
theorem words_slice {l : List (Str × Tok)} {sh : Nat} (h : l.length = 32) (hs : sh < 30) : kms_pick (List.toArray (strValues l)).toList (some (sh : Int)) (some ((sh : Int) + 3)) = strValues ((l.drop sh).take 3) := by
  unfold kms_pick kms_lo kms_hi
  rw [List.toList_toArray]
  have hl : (strValues l).length = 32 := by unfold strValues; rw [List.length_map, h]
  rw [hl]
  have e1 : (if (sh : Int) < 0 then 32 - (-(sh : Int)).toNat else min (sh : Int).toNat 32) = sh := by rw [if_neg (by omega)]; omega
  have e2 : (if (sh : Int) + 3 < 0 then 32 - (-((sh : Int) + 3)).toNat else min ((sh : Int) + 3).toNat 32) = sh + 3 := by rw [if_neg (by omega)]; omega
  dsimp only
  rw [e1, e2, Nat.add_sub_cancel_left]
  unfold strValues
  rw [List.map_take, List.map_drop]
theorem wordsOk_len {T : Nat} {l : List (Str × Tok)} (h : WordsOk T l) : l.length = 32 := by
  rw [← List.length_map (f := fun x : Str × Tok => x.1), h.1, List.length_map, List.length_range]
theorem words_at {T : Nat} {l : List (Str × Tok)} {sh b : Nat} (h : WordsOk T l) (hs : sh < 30) (hb : b < 3) : (((l.drop sh).take 3).map (·.1))[b]? = some (wordN (sh + b)) := by
  rw [List.map_take, List.map_drop, h.1, List.getElem?_take_of_lt hb, List.getElem?_drop, List.getElem?_map, List.getElem?_range (by omega)]
  rfl
theorem words_ne {T : Nat} {l : List (Str × Tok)} {sh b j : Nat} (h : WordsOk T l) (hs : sh < 30) (hb : b < 3) (hj : j < b) : (((l.drop sh).take 3).map (·.1))[j]? ≠ some (wordN (sh + b)) := by
  rw [words_at h hs (by omega)]
  intro e
  have := word_inj ⟨sh + j, by omega⟩ ⟨sh + b, by omega⟩ (Option.some.inj e)
  have h2 := congrArg Fin.val this
  dsimp only at h2
  omega
theorem words_tok {T : Nat} {l : List (Str × Tok)} {sh : Nat} {x : Str} {tx : Tok} (h : WordsOk T l) (ht : OkTok T tx) : ∀ p ∈ (l.drop sh).take 3, 1 ≤ p.2 ∧ (p.2 = tx → p.1 = x) := by
  intro p hp
  have hm := h.2 p (List.mem_of_mem_drop (List.mem_of_mem_take hp))
  refine ⟨Nat.le_trans (by decide) hm.1, fun e => ?_⟩
  rw [e] at hm
  rcases ht.2 with h2 | h2
  · exact absurd hm.1 (Nat.not_le.mpr h2)
  · exact absurd hm.2 (Nat.not_lt.mpr h2)
theorem strs_set {l : List (Str × Tok)} {p : Nat} {x : Str} {t : Tok} : (strValues l).set p (.str x t) = strValues (l.set p (x, t)) := by
  unfold strValues
  rw [List.map_set]
theorem strs_at {l : List (Str × Tok)} {k : List Str} {p : Nat} (h : l.map (·.1) = k) (hp : p < k.length) : ∃ t, (strValues l)[p]? = some (.str (k.getD p (Str.ofString "")) t) := by
  have hl : p < l.length := by rw [← h, List.length_map] at hp; exact hp
  refine ⟨l[p].2, ?_⟩
  unfold strValues
  rw [List.getElem?_map, List.getElem?_eq_getElem hl, List.getD_eq_getElem?_getD, ← h, List.getElem?_map, List.getElem?_eq_getElem hl]
  rfl
theorem ints_at : ∀ {vs : List Value} {ns : List Int} {k : Nat} {v : Value}, IntsAre vs ns → vs[k]? = some v → ∃ n t, ns[k]? = some n ∧ v = .int n t
  | _, _, 0, _, .cons n t r, h => ⟨n, t, rfl, by cases h; rfl⟩
  | _, _, k + 1, _, .cons n t r, h => ints_at (k := k) r h
theorem place_at {b k : Nat} {vs : List Value} {v : Value} (hI : IntsAre vs ((placesOf b).map fun (p : Nat) => (p : Int))) (h : vs[k]? = some v) : ∃ p t, (placesOf b)[k]? = some p ∧ v = .int (p : Int) t := by
  obtain ⟨n, t, h1, rfl⟩ := ints_at hI h
  rw [List.getElem?_map] at h1
  cases e : (placesOf b)[k]? with
  | none => rw [e] at h1; cases h1
  | some p => rw [e] at h1; exact ⟨p, t, rfl, by cases h1; rfl⟩
theorem set_next {z : Int} {b k p : Nat} {l : List (Str × Tok)} {bs : List Nat} {t : Tok} (h : l.map (·.1) = setAll (markS z) ((placesOf b).take k) (pieceS z bs)) (hp : (placesOf b)[k]? = some p) :
    (l.set p ((markS z).getD p (Str.ofString ""), t)).map (·.1) = setAll (markS z) ((placesOf b).take (k + 1)) (pieceS z bs) := by
  rw [List.map_set, h, List.take_add_one, hp]
  exact (setAll_snoc _ _ _ _).symm
section
variable {prog : Program} {w : World} {A : Around} {E : Value → Shared → Prop} {s : Shared} {h₀ : Heap} {L : Addr} {news : List (Addr × Obj)}
theorem place_sub {value slice : PySem.Expr} {D A0 A1 A2 : Addr} {n c0 c1 c2 b : Nat} {u t0 t1 t2 t3 : Tok} {old : List (Addr × Obj)} {Q : Value → Shared → Prop} (N : News h₀ L s.heap news) (hm : (D, ({ cls := .type "tuple", data := .seq (List.toArray [.ref A0, .ref A1, .ref A2]) n } : Obj)) ∈ news) (hb : b < 3)
    (m0 : (A0, listOf (List.toArray [.int 0 t0]) c0) ∈ news) (m1 : (A1, listOf (List.toArray [.int 2 t1]) c1) ∈ news) (m2 : (A2, listOf (List.toArray [.int 1 t2, .int 3 t3]) c2) ∈ news)
    (f0 : ∀ p ∈ old, p.1 ≠ A0) (f1 : ∀ p ∈ old, p.1 ≠ A1) (f2 : ∀ p ∈ old, p.1 ≠ A2)
    (h : ∀ Ab vs c, (Ab, listOf (List.toArray vs) c) ∈ news → (∀ p ∈ old, p.1 ≠ Ab) → IntsAre vs ((placesOf b).map fun (p : Nat) => (p : Int)) → Q (.ref Ab) s)
    (hs : subscripted slice false (.ref D) (.int (b : Int) u) = operate [.ref D, .int (b : Int) u] (getItem (.ref D) (.int (b : Int) u)) := by with_unfolding_all rfl) :
    wpAny (model prog w) A (subscriptTail value slice (.ref D) (.int (b : Int) u)) Q E s := by
  match b, hb with
  | 0, _ => exact tup_item N hm rfl (by decide) rfl (h _ _ _ m0 f0 (.cons _ _ .nil)) hs
  | 1, _ => exact tup_item N hm rfl (by decide) rfl (h _ _ _ m1 f1 (.cons _ _ .nil)) hs
  | 2, _ => exact tup_item N hm rfl (by decide) rfl (h _ _ _ m2 f2 (.cons _ _ (.cons _ _ .nil))) hs
end
theorem set_done {z : Int} {b n : Nat} {l : List (Str × Tok)} {bs : List Nat} {va : List Value} (hb : b < 3) (hI : IntsAre va ((placesOf b).map fun (p : Nat) => (p : Int))) (h : l.map (·.1) = setAll (markS z) ((placesOf b).take va.length) (pieceS z bs)) : l.map (·.1) = pieceS z (bs ++ [b]) := by
  have hl := hI.length
  rw [List.length_map] at hl
  rw [hl, List.take_length] at h
  rw [h, piece_set z bs hb]
theorem set_done' {z : Int} {b n i j : Nat} {l : List (Str × Tok)} {va : List Value} (hd : doneB i (j + 1) = doneB i j ++ [b]) (hb : b < 3) (hI : IntsAre va ((placesOf b).map fun (p : Nat) => (p : Int))) (h : l.map (·.1) = setAll (markS z) ((placesOf b).take va.length) (pieceS z (doneB i j))) : l.map (·.1) = pieceS z (doneB i (j + 1)) := by
  rw [hd]; exact set_done (n := n) hb hI h
theorem folded_sub {a b : PySem.Expr} {pos : Pos} {env : Env} (x : Value) : foldedSetIterable (.Subscript a b pos) env x = pure x := rfl
theorem piece_from {l : List (Str × Tok)} {n : Nat} (h : l.length = 4) (hn : n < 4) : kms_pick (List.toArray (strValues l)).toList (some (n : Int)) none = strValues (l.drop n) := by
  unfold kms_pick kms_lo kms_hi
  rw [List.toList_toArray]
  have hl : (strValues l).length = 4 := by unfold strValues; rw [List.length_map, h]
  rw [hl]
  have e1 : (if (n : Int) < 0 then 4 - (-(n : Int)).toNat else min (n : Int).toNat 4) = n := by rw [if_neg (by omega)]; omega
  dsimp only
  rw [e1, List.take_of_length_le (by rw [List.length_drop, hl]; exact Nat.le_refl _)]
  unfold strValues
  rw [List.map_drop]
theorem piece_to {l : List (Str × Tok)} {n : Nat} (h : l.length = 4) (hn : n < 4) : kms_pick (List.toArray (strValues l)).toList none (some (n : Int)) = strValues (l.take n) := by
  unfold kms_pick kms_lo kms_hi
  rw [List.toList_toArray]
  have hl : (strValues l).length = 4 := by unfold strValues; rw [List.length_map, h]
  rw [hl]
  have e1 : (if (n : Int) < 0 then 4 - (-(n : Int)).toNat else min (n : Int).toNat 4) = n := by rw [if_neg (by omega)]; omega
  dsimp only
  rw [e1, List.drop_zero, Nat.sub_zero]
  unfold strValues
  rw [List.map_take]
theorem piece_cat {a b : List (Str × Tok)} : (List.toArray (strValues a)).toList ++ (List.toArray (strValues b)).toList = strValues (a ++ b) := by
  unfold strValues
  rw [List.toList_toArray, List.toList_toArray, List.map_append]
theorem piece_one : ∀ (odd : Bool) (i : Fin 8) (p : Fin 4), (pieceF odd i p).length ≤ 1 := by decide +kernel
theorem txtC_len (z : Int) (k : List (Fin 7)) : (txtC z k).length = k.length := by
  unfold txtC Str.length; simp
theorem turned_map {z : Int} {i : Nat} {l : List (Str × Tok)} (h : l.map (·.1) = pieceS z (bitsN i)) : (l.drop (turnN z) ++ l.take (turnN z)).map (·.1) = (pieceS z (bitsN i)).drop (turnN z) ++ (pieceS z (bitsN i)).take (turnN z) := by
  rw [List.map_append, List.map_drop, List.map_take, h]
theorem turned_ok {z : Int} {i : Nat} (hi : i < 8) : JoinOk (Str.ofString "") ((pieceS z (bitsN i)).drop (turnN z) ++ (pieceS z (bitsN i)).take (turnN z)) = true := by
  have hb : ∀ y ∈ (pieceS z (bitsN i)).drop (turnN z) ++ (pieceS z (bitsN i)).take (turnN z), y.length ≤ 1 := by
    intro y hy
    have hy2 : y ∈ pieceS z (bitsN i) := by
      rcases List.mem_append.mp hy with h | h
      · exact List.mem_of_mem_drop h
      · exact List.mem_of_mem_take h
    rw [piece_all] at hy2
    simp only [List.mem_cons, List.not_mem_nil, or_false] at hy2
    rcases hy2 with rfl | rfl | rfl | rfl <;> rw [txtC_len]
    · exact piece_one (oddB z) ⟨i, hi⟩ 0
    · exact piece_one (oddB z) ⟨i, hi⟩ 1
    · exact piece_one (oddB z) ⟨i, hi⟩ 2
    · exact piece_one (oddB z) ⟨i, hi⟩ 3
  unfold JoinOk
  rw [StrLaws.joinFits (B := 1) hb]
  · rfl
  · have h2 : (Str.ofString "").length = 0 := by decide
    have h3 : ((pieceS z (bitsN i)).drop (turnN z) ++ (pieceS z (bitsN i)).take (turnN z)).length ≤ 8 := by
      rw [List.length_append, List.length_drop, List.length_take, piece_len]; omega
    rw [h2]; omega
theorem texts_snoc {z : Int} {i : Nat} {l : List (Str × Tok)} {x : Str} {t : Tok} (h : l.map (·.1) = (List.range i).map (textC z)) (hx : x = textC z i) : (l ++ [(x, t)]).map (·.1) = (List.range (i + 1)).map (textC z) := by
  rw [List.map_append, h, List.range_succ, List.map_append, hx]; rfl

end

/-! text: plaw -/
section
/-! ## plain facts for the law -/
open PySem.Builtin.Int (intBits)
noncomputable def BitsIn (B : Nat) (ns : List Int) : Prop := ∀ n ∈ ns, Builtin.Int.intBits n ≤ B
theorem bits_getD {B : Nat} {ns : List Int} (h : BitsIn B ns) (i : Nat) : Builtin.Int.intBits (ns.getD i 0) ≤ B := by
  rw [List.getD_eq_getElem?_getD]
  cases e : ns[i]? with
  | none => exact Nat.le_trans (by decide) (Nat.zero_le B)
  | some x => exact h x (List.mem_of_getElem? e)
theorem bits_set {B : Nat} {ns : List Int} (h : BitsIn B ns) {i : Nat} {x : Int} (hx : Builtin.Int.intBits x ≤ B) : BitsIn B (ns.set i x) := by
  intro n hn
  rcases List.mem_or_eq_of_mem_set hn with h1 | h1
  · exact h n h1
  · rw [h1]; exact hx
theorem bits_mono {B C : Nat} {ns : List Int} (h : BitsIn B ns) (hbc : B ≤ C) : BitsIn C ns := fun n hn => Nat.le_trans (h n hn) hbc
theorem bits_add1 {B : Nat} {a b : Int} (ha : Builtin.Int.intBits a ≤ B) (hb : Builtin.Int.intBits b ≤ B) : Builtin.Int.intBits (a + b) ≤ B + 1 := by
  have := intBits_add_le ha hb
  rwa [Nat.max_self] at this
theorem bits_sub1 {B : Nat} {a b : Int} (ha : Builtin.Int.intBits a ≤ B) (hb : Builtin.Int.intBits b ≤ B) : Builtin.Int.intBits (a - b) ≤ B + 1 := by
  rw [Int.sub_eq_add_neg]
  refine bits_add1 ha ?_
  have : Builtin.Int.intBits (-b) = Builtin.Int.intBits b := by
    unfold Builtin.Int.intBits
    rw [Int.natAbs_neg]
    by_cases h : b = 0
    · subst h; rfl
    · have h1 : (-b == 0) = false := beq_eq_false_iff_ne.mpr (by omega)
      have h2 : (b == 0) = false := beq_eq_false_iff_ne.mpr h
      rw [h1, h2]
  rw [this]; exact hb
theorem bits_step {B b i : Nat} {ns : List Int} (h : BitsIn B ns) : BitsIn (B + 1) (stepW b i ns) := by
  unfold stepW
  split
  · exact bits_set (bits_set (bits_mono h (Nat.le_succ _)) (bits_add1 (bits_getD h _) (bits_getD h _))) (bits_sub1 (bits_getD h _) (bits_getD h _))
  · exact bits_mono h (Nat.le_succ _)
theorem bits_run {b : Nat} : ∀ (n i B : Nat) {ns : List Int}, BitsIn B ns → BitsIn (B + n) (runW b n i ns)
  | 0, _, _, _, h => h
  | n + 1, i, B, _, h => by
    rw [runW, show B + (n + 1) = B + 1 + n by omega]
    exact bits_run n (i + 1) (B + 1) (bits_step h)
theorem bits_tail {B : Nat} {ns : List Int} (h : BitsIn B ns) : BitsIn (B + 24) (tailW 0 ns) := by
  show BitsIn _ (runW 4 8 0 (runW 2 8 0 (runW 1 8 0 ns)))
  exact bits_run 8 0 _ (bits_run 8 0 _ (bits_run 8 0 _ h))
theorem bits_prod {M x y : Nat} {rows : List Int} (h : BitsIn M rows) : Builtin.Int.intBits (prodG rows x y) ≤ 2 * M + 1 := by
  unfold prodG
  have hm : ∀ i j, Builtin.Int.intBits (rows.getD i 0 * rows.getD j 0) ≤ 2 * M := fun i j => by
    have := intBits_mul_le (bits_getD h i) (bits_getD h j); omega
  split
  · exact Nat.le_trans (hm _ _) (Nat.le_succ _)
  · exact bits_add1 (hm _ _) (hm _ _)
theorem bits_inner {M x : Nat} {rows : List Int} (h : BitsIn M rows) : ∀ (n y B : Nat) {t : List Int}, 2 * M + 1 ≤ B → BitsIn B t → BitsIn (B + n) (innerG rows x n y t)
  | 0, _, _, _, _, ht => ht
  | n + 1, y, B, _, hB, ht => by
    rw [innerG, show B + (n + 1) = B + 1 + n by omega]
    exact bits_inner h n (y + 1) (B + 1) (Nat.le_succ_of_le hB) (bits_set (bits_mono ht (Nat.le_succ _)) (bits_add1 (bits_getD ht _) (Nat.le_trans (bits_prod h) hB)))
theorem bits_outer {M : Nat} {rows : List Int} (h : BitsIn M rows) : ∀ (n x B : Nat) {t : List Int}, 2 * M + 1 ≤ B → BitsIn B t → BitsIn (B + 8 * n) (outerG rows n x t)
  | 0, _, _, _, _, ht => ht
  | n + 1, x, B, _, hB, ht => by
    rw [outerG, show B + 8 * (n + 1) = B + 8 + 8 * n by omega]
    exact bits_outer h n (x + 1) (B + 8) (by omega) (bits_mono (bits_inner h (8 - x) x B hB ht) (by omega))
noncomputable def rows0 : List Int := [3, -1, 4, 1, -5, 9, 2, -6, 2, 7, -1, 8, 2, -8, 1, 8]
theorem bits_rows0 : BitsIn 4 rows0 := by unfold BitsIn rows0; decide +kernel
theorem fm16 (k : Nat) : Int.fmod (0 + (k : Int)) 16 = ((k % 16 : Nat) : Int) := by
  rw [Int.fmod_eq_emod_of_nonneg _ (by decide)]; omega
theorem small_len {n : Nat} (h : n ≤ 63) : Builtin.Range.small 0 (n : Int) 1 = true := by
  have h2 : ∀ k : Fin 64, Builtin.Range.small 0 (k.val : Int) 1 = true := by decide
  exact h2 ⟨n, by omega⟩
theorem xor_fin {x y : Nat} (hx : x < 8) (hy : y < 8) : x ^^^ y < 8 := by
  have h : ∀ a b : Fin 8, a.val ^^^ b.val < 8 := by decide
  exact h ⟨x, hx⟩ ⟨y, hy⟩
theorem xorI {x y : Nat} (hx : x < 8) (hy : y < 8) : Builtin.bitXor (x : Int) (y : Int) = ((x ^^^ y : Nat) : Int) := by
  have h : ∀ a b : Fin 8, Builtin.bitXor (a.val : Int) (b.val : Int) = ((a.val ^^^ b.val : Nat) : Int) := by decide
  exact h ⟨x, hx⟩ ⟨y, hy⟩
theorem inner_step {rows : List Int} {x y : Nat} {t : List Int} {T : List Int} (hy : x + y < 8) (h : T = innerG rows x (8 - (x + y)) (x + y) t) :
    T = innerG rows x (8 - (x + (y + 1))) (x + (y + 1)) (t.set (x ^^^ (x + y)) (t.getD (x ^^^ (x + y)) 0 + prodG rows x (x + y))) := by
  rw [h, sub_more hy, innerG]
  rfl
theorem outer_step {rows : List Int} {x : Nat} {t T : List Int} (hx : x < 8) (h : T = outerG rows (8 - x) x t) : T = outerG rows (8 - (x + 1)) (x + 1) (innerG rows x (8 - x) x t) := by
  rw [h, sub_more hx, outerG, ← sub_more hx]
/-- the distance that is told -/
theorem told_far {z : Int} {p q : Nat} (hp : p < 8) (hq : q < 8) {x : Int} :
    lev (textC z p) (textC z q) (((p ^^^ q : Nat) : Int) + (Int.fmod x 3 - 1)) = ((p ^^^ q : Nat) : Int) := by
  have h1 := Int.fmod_nonneg_of_pos x (b := 3) (by decide)
  have h2 := Int.fmod_lt_of_pos x (b := 3) (by decide)
  obtain ⟨d, hd⟩ : ∃ d : Nat, Int.fmod x 3 = (d : Int) := ⟨(Int.fmod x 3).toNat, by omega⟩
  have hd3 : d < 3 := by omega
  have := far_N (oddB z) ⟨turnN z, turn_lt z⟩ ⟨remN z, remN_lt z⟩ ⟨idxN z, idxN_lt z⟩ ⟨p, hp⟩ ⟨q, hq⟩ ⟨d, hd3⟩
  dsimp only at this
  rw [hd]
  unfold lev textC txtC
  rw [List.toList_toArray, List.toList_toArray]
  exact this
theorem text_len {z : Int} {p : Nat} (hp : p < 8) : (textC z p).length ≤ 4 := by
  unfold textC
  rw [txtC_len]
  exact short_F (oddB z) ⟨turnN z, turn_lt z⟩ ⟨p, hp⟩
theorem texts_at {z : Int} {l : List (Str × Tok)} {p : Nat} (h : l.map (·.1) = (List.range 8).map (textC z)) (hp : p < 8) : ∃ t, (strValues l)[p]? = some (.str (textC z p) t) := by
  have hl : p < l.length := by
    have := congrArg List.length h
    rw [List.length_map, List.length_map, List.length_range] at this
    omega
  refine ⟨l[p].2, ?_⟩
  have e : (l.map (·.1))[p]? = some (textC z p) := by rw [h, List.getElem?_map, List.getElem?_range hp]; rfl
  rw [List.getElem?_map, List.getElem?_eq_getElem hl] at e
  unfold strValues
  rw [List.getElem?_map, List.getElem?_eq_getElem hl]
  exact congrArg some (congrArg (fun x => Value.str x l[p].2) (Option.some.inj e))
theorem prod_one {ns : List Int} {i y : Nat} (h : (i : Int) = (y : Int)) : ns.getD (Int.toNat (i : Int)) 0 * ns.getD (Int.toNat (8 + (y : Int))) 0 = prodG ns i y := by
  unfold prodG
  rw [if_pos (by omega), Int.toNat_natCast, show Int.toNat (8 + (y : Int)) = 8 + y by omega]
theorem prod_two {ns : List Int} {i y : Nat} (h : (i : Int) ≠ (y : Int)) : ns.getD (Int.toNat (i : Int)) 0 * ns.getD (Int.toNat (8 + (y : Int))) 0 + ns.getD (Int.toNat (y : Int)) 0 * ns.getD (Int.toNat (8 + (i : Int))) 0 = prodG ns i y := by
  unfold prodG
  rw [if_neg (by omega), Int.toNat_natCast, Int.toNat_natCast, show Int.toNat (8 + (y : Int)) = 8 + y by omega, show Int.toNat (8 + (i : Int)) = 8 + i by omega]
theorem inner_end {rows : List Int} {x : Nat} {t T : List Int} (hx : x < 8) (h : T = innerG rows x (8 - (x + (8 - x))) (x + (8 - x)) t) : T = t := by
  rw [h, Nat.sub_eq_zero_of_le (Nat.le_of_eq (Nat.add_sub_of_le (Nat.le_of_lt hx)).symm)]
  rfl
theorem outer_next {rows : List Int} {x : Nat} {t t2 T : List Int} (hx : x < 8) (h : T = outerG rows (8 - x) x t) (h2 : innerG rows x (8 - x) x t = t2) : T = outerG rows (8 - (x + 1)) (x + 1) t2 := by
  rw [outer_step hx h, h2]
theorem inner_next {rows : List Int} {i j y : Nat} {t T : List Int} (hi : i < 8) (hy8 : y < 8) (hy : i + j = y) (h : T = innerG rows i (8 - y) y t) :
    T = innerG rows i (8 - (i + (j + 1))) (i + (j + 1)) (t.set (Int.toNat ((i ^^^ y : Nat) : Int)) (t.getD (Int.toNat ((i ^^^ y : Nat) : Int)) 0 + prodG rows i y)) := by
  subst hy
  rw [Int.toNat_natCast]
  exact inner_step hy8 h
theorem pick_lo8 {vs : List Value} (h : vs.length = 16) : kms_pick vs none (some 8) = vs.take 8 := by
  unfold kms_pick kms_lo kms_hi
  rw [h]
  rfl
theorem pick_hi8 {vs : List Value} (h : vs.length = 16) : kms_pick vs (some 8) none = vs.drop 8 := by
  unfold kms_pick kms_lo kms_hi
  rw [h]
  exact List.take_of_length_le (by rw [List.length_drop, h]; decide)
theorem pair_inj {a b c d : Value} (h : #[a, b] = #[c, d]) : a = c ∧ b = d := by
  have := congrArg Array.toList h
  simp only [List.cons.injEq, and_true] at this
  exact this
theorem ints_byD : ∀ {ns : List Int} {ys : List Value}, ys.length = ns.length → (∀ j y, ys[j]? = some y → ∃ t, y = Value.int (ns.getD j 0) t) → IntsAre ys ns
  | [], ys, hl, _ => by
    cases ys with
    | nil => exact .nil
    | cons _ _ => simp at hl
  | n :: ns, ys, hl, h => by
    cases ys with
    | nil => simp at hl
    | cons y ys =>
      obtain ⟨t, e⟩ := h 0 y rfl
      have e' : y = Value.int n t := e
      subst e'
      exact .cons n t (ints_byD (by simpa using hl) fun j y hj => by
        have := h (j + 1) y (by simpa using hj)
        simpa using this)
theorem zip_getD {A B : List Int} (j : Nat) : (List.zipWith (· * ·) A B).getD j 0 = A.getD j 0 * B.getD j 0 := by
  simp only [List.getD_eq_getElem?_getD, List.getElem?_zipWith]
  cases A[j]? <;> cases B[j]? <;> simp
theorem map_getD {A : List Int} (j : Nat) : (A.map (· * 8)).getD j 0 = A.getD j 0 * 8 := by
  simp only [List.getD_eq_getElem?_getD, List.getElem?_map]
  cases A[j]? <;> simp
theorem bits_zeros : BitsIn 1 [0, 0, 0, 0, 0, 0, 0, 0] := by unfold BitsIn; decide +kernel
theorem bits_table {M : Nat} {ns tn : List Int} (hB : BitsIn M ns) (h : outerG ns 8 0 [0, 0, 0, 0, 0, 0, 0, 0] = tn) (i : Nat) : Builtin.Int.intBits (tn.getD i 0) ≤ 2 * M + 65 := by
  subst h
  refine bits_getD (bits_mono (bits_outer hB 8 0 (2 * M + 1) (Nat.le_refl _) ?_) (Nat.le_of_eq rfl)) i
  exact bits_mono bits_zeros (Nat.le_add_left ..)
theorem shl_ok {ns tn : List Int} (hB : BitsIn (2 ^ 20 + 63) ns) (h : outerG ns 8 0 [0, 0, 0, 0, 0, 0, 0, 0] = tn) (i : Nat) : (Builtin.Int.intBits (tn.getD i 0) : Int) + 3 ≤ 2 ^ 27 := by
  have := bits_table hB h i
  omega
theorem shl_is {tn : List Int} (i : Nat) (t : Tok) : ∃ t', Value.int (tn.getD i 0 * 2 ^ Int.toNat 3) t = Value.int ((tn.map (· * 8)).getD i 0) t' := ⟨t, by rw [map_getD]; rfl⟩
theorem law_plain {ns tn : List Int} (hl : ns.length = 16) (h : outerG ns 8 0 [0, 0, 0, 0, 0, 0, 0, 0] = tn) : tn.map (· * 8) = tailW 0 (List.zipWith (· * ·) (tailW 0 (ns.take 8)) (tailW 0 (ns.drop 8))) := by
  obtain ⟨a0, t0, e0, l0⟩ := lsucc hl
  obtain ⟨a1, t1, e1, l1⟩ := lsucc l0
  obtain ⟨a2, t2, e2, l2⟩ := lsucc l1
  obtain ⟨a3, t3, e3, l3⟩ := lsucc l2
  obtain ⟨a4, t4, e4, l4⟩ := lsucc l3
  obtain ⟨a5, t5, e5, l5⟩ := lsucc l4
  obtain ⟨a6, t6, e6, l6⟩ := lsucc l5
  obtain ⟨a7, t7, e7, l7⟩ := lsucc l6
  obtain ⟨b0, t8, e8, l8⟩ := lsucc l7
  obtain ⟨b1, t9, e9, l9⟩ := lsucc l8
  obtain ⟨b2, t10, e10, l10⟩ := lsucc l9
  obtain ⟨b3, t11, e11, l11⟩ := lsucc l10
  obtain ⟨b4, t12, e12, l12⟩ := lsucc l11
  obtain ⟨b5, t13, e13, l13⟩ := lsucc l12
  obtain ⟨b6, t14, e14, l14⟩ := lsucc l13
  obtain ⟨b7, t15, e15, l15⟩ := lsucc l14
  have e16 : t15 = [] := List.eq_nil_of_length_eq_zero l15
  subst e16 e15 e14 e13 e12 e11 e10 e9 e8 e7 e6 e5 e4 e3 e2 e1 e0
  rw [← h]
  exact table_ok a0 a1 a2 a3 a4 a5 a6 a7 b0 b1 b2 b3 b4 b5 b6 b7

end

/-! text: zipc -/
section
/-! ## y = [elt for a, b in pairs], pairs any walk over pairs -/
section
open PyProof.Rows.LCg
variable {prog : Program} {w : World} {A : Around} {E : Value → Shared → Prop} {s : Shared} {h₀ : Heap} {L : Addr} {m : Str → Option Value} {env : Env}
noncomputable def TurnW (prog : Program) (w : World) (A : Around) (h₀ : Heap) (L : Addr) (m : Str → Option Value) (env : Env) (elt : Expr) (a b : Str) (scope : Scope) (cl : List (Str × Addr)) (s : Shared) (n : Nat) (P : Nat → Array Value → Prop) (news : List (Addr × Obj)) (Pv : Nat → Value → Prop) : Prop :=
  ∀ (i : Nat) (v0 v1 : Value) (C : Addr) (oC : Obj) (D : Addr) (m₂ : Str → Option Value) (h : Heap) (tk : Nat) (ys : List Value) (own : List (Addr × Obj)) (E' : Value → Shared → Prop), i < n → P i #[v0, v1] → NsObj oC m₂ → m₂ a = some v0 → m₂ b = some v1 → Fr h₀ L h m → News h₀ L h ((C, oC) :: (D, lst ys) :: (news ++ own)) →
    wpAny (model prog w) A (eval elt (compEnvC scope cl C env)) (fun y s₄ => ∃ h' tk', s₄ = { s with heap := h', toks := tk' } ∧ Fr h₀ L h' m ∧ News h₀ L h' ((C, oC) :: (D, lst ys) :: (news ++ own)) ∧ Pv i y) E' { s with heap := h, toks := tk }
noncomputable def SrcW (prog : Program) (w : World) (A : Around) (h₀ : Heap) (L : Addr) (m : Str → Option Value) (env : Env) (elt : Expr) (a b : Str) (scope : Scope) (cl : List (Str × Addr)) (Q : Addr → Heap → Nat → Shared → Prop) (xv : Value) (s₁ : Shared) : Prop :=
  ∃ I fp wr n P St Mid news Pv, xv = .ref I ∧ A.handled = none ∧ WalksT prog w A I fp wr n P St Mid ∧ (∀ i vals, P i vals → ∃ v0 v1, vals = #[v0, v1]) ∧ St 0 s₁.heap ∧ (∀ c ∈ fp, c < s₁.heap.objs.size) ∧ L ∉ fp ∧ (∀ c ∈ wr, h₀.get? c = none) ∧ (∀ p ∈ news, p.1 ∉ wr) ∧
    Fr h₀ L s₁.heap m ∧ News h₀ L s₁.heap news ∧ n ≤ 1000 ∧ TurnW prog w A h₀ L m env elt a b scope cl s₁ n P news Pv ∧
    ∀ D h tk ys, ys.length = n → (∀ j y, ys[j]? = some y → Pv j y) → News h₀ L h ((D, lst ys) :: news) → (∀ p ∈ news, p.1 < D) → Q D h tk s₁
theorem Assign_comp_W {elt iter : Expr} {a b y : Str} {pa pb py tp : Pos} {kk : Nat} {scope : Scope} {cl : List (Str × Addr)} {pos spos : Pos} {Q : Flow → Shared → Prop} (Fs₀ : Fr h₀ L s.heap m) (hLe : env.locals = L)
    (hsw : swapsWith (.ListComp elt [⟨.Tuple [.Name a pa, .Name b pb] kk tp, iter, [], 0⟩] scope pos) (some (.Name y py)) spos.line env = pure true)
    (hclos : closureFor scope env = pure cl) (hcell : ∀ z ∈ scope.names, z.2 ≠ .cell) (hkind : scope.kind = .function)
    (hnames : ∀ z ∈ scope.names, z.2 = .local → scope.names.lookup z.1 = some .local) (ha : scope.names.lookup a = some .local) (hb : scope.names.lookup b = some .local) (hab : a ≠ b)
    (hy : env.kindOf y = some .local) (hp : (env.scope.kind == .class || (env.scope.kind == .module && env.locals != env.globals)) = false)
    (h : wpAny (model prog w) A (eval iter env) (SrcW prog w A h₀ L m env elt a b scope cl (fun D h tk s₁ => Fr h₀ L h (fun z => if z = y then some (.ref D) else m z) → Q .next { s₁ with heap := h, toks := tk })) E s)
    (hs : ∀ x, foldedSetIterable iter env x = pure x := by intro _; rfl) :
    wpAny (model prog w) A (exec (.Assign [.Name y py] (.ListComp elt [⟨.Tuple [.Name a pa, .Name b pb] kk tp, iter, [], 0⟩] scope pos) spos) env) Q E s := by
  subst hLe
  rw [exec_Assign_Name_used _ _ _ _ hsw]
  refine wpAny_bind (wpAny_standAt (wpAny_bind ?_))
  show wpAny _ A (do let _ ← comprehension (.ListComp elt [⟨.Tuple [.Name a pa, .Name b pb] kk tp, iter, [], 0⟩] scope pos) scope env _ (newList []) false (eval iter env) (some (assign (.Name y py) env))) _ _ s
  refine wpAny_bind (wpAny_mono (wpAny_comprehension_free (use := some (assign (.Name y py) env)) (Q := fun _ s' => Q .next s') rfl hs hclos hkind hnames
    (wpAny_mono h (fun xv s₁ h₁ => ?_) fun _ _ e => e)) (fun _ s' hq => wpAny_pure (wpAny_pure hq)) fun _ _ e => e)
  obtain ⟨I, fp, wr, n, P, St, Mid, news, Pv, rfl, hh, W, hP2, hst, hfp, hLf, hwr, hnw, F, N, hn, turn, fin⟩ := h₁
  refine W.self 0 _ _ _ hst ?_
  refine wpAny_newObj_type (wpAny_newFunctionEnv hcell (by intro y hy; simp at hy) (fun h₁ hns₁ hsb₁ => ?_) hkind)
  dsimp only at hns₁ hsb₁ ⊢
  generalize hDe : s₁.heap.objs.size = D at hfp ⊢
  generalize hH2 : s₁.heap.push { cls := .type "list", dict := none, data := .seq ([] : List Value).toArray } = H2 at hns₁ hsb₁ ⊢
  generalize hCe : H2.objs.size = C at hns₁ hsb₁ ⊢
  have hz2 : C = D + 1 := by rw [← hCe, ← hH2, Heap.size_push, hDe]
  have hDC : D ≠ C := by rw [hz2]; exact Nat.ne_of_lt (Nat.lt_succ_self _)
  have lo : ∀ c o, s₁.heap.get? c = some o → c < D := fun c o e => hDe ▸ Heap.lt_size e
  have below : ∀ c : Addr, c < D → c ≠ C ∧ c ≠ D := fun c hc => ⟨by rw [hz2]; exact Nat.ne_of_lt (Nat.lt_succ_of_lt hc), Nat.ne_of_lt hc⟩
  have old : ∀ c o, s₁.heap.get? c = some o → h₁.get? c = some o := fun c o e => hsb₁.extBut c o (below c (lo c o e)).1 (Heap.get?_push_of_some _ (by rw [← hH2]; exact Heap.get?_push_of_some _ e))
  have hacc : h₁.get? D = some (lst []) := hsb₁.extBut _ _ hDC (Heap.get?_push_of_some _ (by rw [← hH2, ← hDe]; exact Heap.get?_push_size _ rfl))
  have hst₁ : St 0 h₁ := W.frame _ _ _ hst fun c _ o e => old c o e
  have none₀ : ∀ c : Addr, D ≤ c → h₀.get? c = none := fun c hc => by
    cases e : h₀.get? c with
    | none => rfl
    | some o => exact absurd (lo c o (F.keep c o e)) (Nat.not_lt.mpr hc)
  have hD₀ : h₀.get? D = none := none₀ _ (Nat.le_refl _)
  have hC₀ : h₀.get? C = none := none₀ _ (by rw [hz2]; exact Nat.le_succ _)
  have hLD : env.locals < D := by obtain ⟨o, _, _, e, _⟩ := F.ns; exact lo _ _ e
  have hL := below _ hLD
  have hLw : env.locals ∉ wr := fun h => hLf (W.sub _ h)
  have nlt : ∀ p ∈ news, p.1 < D := fun p hp => lo _ _ (N p hp).1
  have off : ∀ p ∈ news, p.1 ≠ C ∧ p.1 ≠ D := fun p hp => below _ (nlt p hp)
  have fpo : ∀ c ∈ fp, c ≠ C ∧ c ≠ D := fun c hc => below c (hfp c hc)
  have hCw : C ∉ wr := fun hc => (fpo C (W.sub _ hc)).1 rfl
  have hDw : D ∉ wr := fun hc => (fpo D (W.sub _ hc)).2 rfl
  have oldw : ∀ c o, h₀.get? c = some o → c ∉ wr := fun c o e hc => by rw [hwr c hc] at e; cases e
  have loop : ∀ s₃ : Shared, (∃ tk, s₃ = { s₁ with heap := h₁, toks := tk }) →
      codeAny (model prog w) A (.compLoop (.ListComp elt [⟨.Tuple [.Name a pa, .Name b pb] kk tp, iter, [], 0⟩] scope pos) 0 (.ref I) (.ref D) (compEnvC scope cl C env)) (compPost (model prog w) A E (some (assign (.Name y py) env)) (fun _ s' => Q .next s') (.ref D) C) s₃ := by
    rintro s₃ ⟨tk₃, rfl⟩
    refine kcp_loop
      (fun k s' => ∃ h' tk i ys m', s' = { s₁ with heap := h', toks := tk } ∧ i ≤ n ∧ k = n + 1 - i ∧ ys.length = i ∧ St i h' ∧ Fr h₀ env.locals h' m ∧ h'.Ns C m' ∧ News h₀ env.locals h' ((D, lst ys) :: news) ∧ (∀ j y, ys[j]? = some y → Pv j y)) ?_ (n + 1)
      ⟨h₁, tk₃, 0, [], _, rfl, Nat.zero_le _, rfl, rfl, hst₁, F.keeps old, hns₁, fun p hp => ?_, fun j y hy => by simp at hy⟩
    · rintro k s' ⟨h', tk, i, ys, m', rfl, hi, rfl, hyl, hst', F', hn', N', hP'⟩
      have next : ∀ (ha hb : Heap), Fr h₀ env.locals ha m → News h₀ env.locals ha ((D, lst ys) :: news) → (∀ c o, c ∉ wr → ha.get? c = some o → hb.get? c = some o) → Fr h₀ env.locals hb m ∧ News h₀ env.locals hb ((D, lst ys) :: news) := fun ha hb F₀ N₀ hk₁ =>
        ⟨⟨F₀.ns.at' fun o e => hk₁ _ o hLw e, fun c o e => hk₁ c o (oldw c o e) (F₀.keep c o e), F₀.above⟩, fun p hp => ⟨hk₁ _ _ (by
          rcases List.mem_cons.mp hp with rfl | hp
          · exact hDw
          · exact hnw p hp) (N₀ p hp).1, (N₀ p hp).2⟩⟩
      by_cases hlt : i < n
      · refine W.item i _ _ _ hlt hst' fun T vals h₂ tk₂ hPv hTlt hIT hmid hk₂ => ?_
        obtain ⟨F₂, N₂⟩ := next _ _ F' N' hk₂
        have hn₂ : h₂.Ns C m' := hn'.at' fun o e => hk₂ _ o hCw e
        have hTw := W.apart _ _ _ hmid
        refine W.go _ _ _ i T _ _ _ hmid fun h₃ hst₃ hk₃ => ?_
        obtain ⟨F₃, N₃⟩ := next _ _ F₂ N₂ hk₃
        have hn₃ : h₃.Ns C m' := hn₂.at' fun o e => hk₃ _ o hCw e
        obtain ⟨v0, v1, rfl⟩ := hP2 _ _ hPv
        have ht₃ : h₃.IsTuple T #[v0, v1] := hIT.at fun o e => hk₃ _ o hTw e
        refine kcp_assign hh ht₃ (lookup_relabel_local ha) (lookup_relabel_local hb) (by simp [compEnvC, relabel, hkind]) hn₃ (fun h₄ tk₄ hn₄ hk₄ => ?_)
        have up₄ : ∀ c o, c ≠ C → h₃.get? c = some o → h₄.get? c = some o := hk₄
        have F₄ : Fr h₀ env.locals h₄ m := ⟨F₃.ns.at' fun o e => up₄ _ o hL.1 e, fun c o e => up₄ c o (fun q => by rw [q, hC₀] at e; cases e) (F₃.keep c o e), F₃.above⟩
        have N₄ : News h₀ env.locals h₄ ((D, lst ys) :: news) := fun p hp => ⟨up₄ _ _ (by
          rcases List.mem_cons.mp hp with rfl | hp
          · exact hDC
          · exact (off p hp).1) (N₃ p hp).1, (N₃ p hp).2⟩
        have hst₄ : St (i + 1) h₄ := W.frame _ _ _ hst₃ fun c hc o e => up₄ c o (fpo c hc).1 e
        obtain ⟨oC, heC, hoC⟩ := ns_obj hn₄
        have Nown : News h₀ env.locals h₄ (ownOf h₀ fp h₄) := news_ownOf hLf
        have N₅ : News h₀ env.locals h₄ ((C, oC) :: (D, lst ys) :: (news ++ ownOf h₀ fp h₄)) := by
          intro p hp
          rcases List.mem_cons.mp hp with rfl | hp
          · exact ⟨heC, Ne.symm hL.1, hC₀⟩
          · rcases List.mem_cons.mp hp with rfl | hp
            · exact N₄ _ (List.mem_cons_self ..)
            · rcases List.mem_append.mp hp with hp | hp
              · exact N₄ p (List.mem_cons_of_mem _ hp)
              · exact Nown p hp
        refine wpAny_mono (turn i v0 v1 C oC D _ h₄ tk₄ ys (ownOf h₀ fp h₄) _ hlt hPv hoC (by
          show (if a = b then some v1 else if a = a then some v0 else m' a) = some v0
          rw [if_neg hab, if_pos rfl]) (by
          show (if b = b then some v1 else _) = some v1
          rw [if_pos rfl]) F₄ N₅) (fun z s₆ h₆ => ?_) fun _ _ e => e
        obtain ⟨h₆, tk₆, rfl, F₆, N₆, hPz⟩ := h₆
        have zC := (N₆ (C, oC) (List.mem_cons_self ..)).1
        have zD := (N₆ (D, lst ys) (List.mem_cons_of_mem _ (List.mem_cons_self ..))).1
        have zN : ∀ p ∈ news, h₆.get? p.1 = some p.2 := fun p hp => (N₆ p (List.mem_cons_of_mem _ (List.mem_cons_of_mem _ (List.mem_append_left _ hp)))).1
        have hst₆ : St (i + 1) h₆ := W.frame _ _ _ hst₄ fun c hc o e => by
          cases hg : h₀.get? c with
          | some o₀ =>
            have : o₀ = o := by have := F₄.keep c o₀ hg; rw [e] at this; exact (Option.some.inj this).symm
            exact this ▸ F₆.keep c o₀ hg
          | none => exact (N₆ _ (List.mem_cons_of_mem _ (List.mem_cons_of_mem _ (List.mem_append_right _ (mem_ownOf hc hg e))))).1
        refine append_at (hsz := by show ys.toArray.size ≤ sizeLine; rw [List.size_toArray, hyl, sizeLine_eq]; omega) zD fun h₇ hs₇ hD₇ => ?_
        refine ⟨n + 1 - (i + 1), by omega, h₇, tk₆, i + 1, ys ++ [z], _, rfl, hlt, rfl, by rw [List.length_append, List.length_singleton, hyl], W.frame _ _ _ hst₆ fun c hc o e => hs₇.extBut c o (fpo c hc).2 e, F₆.change hs₇ (Ne.symm hL.2) hD₀,
          (hoC.ns zC).sameBut hs₇ (Ne.symm hDC), fun p hp => ?_, fun j y' hy' => ?_⟩
        · rcases List.mem_cons.mp hp with rfl | hp
          · exact ⟨hD₇.trans (congrArg some (lst_snoc ys z)), Ne.symm hL.2, hD₀⟩
          · exact ⟨hs₇.extBut _ _ (off p hp).2 (zN p hp), (N p hp).2⟩
        · by_cases hj : j < ys.length
          · rw [List.getElem?_append_left hj] at hy'
            exact hP' j y' hy'
          · rw [List.getElem?_append_right (Nat.not_lt.mp hj)] at hy'
            have hj2 : j = ys.length := by
              have := (List.getElem?_eq_some_iff.mp hy').1
              simp only [List.length_singleton] at this
              omega
            subst hj2
            simp only [Nat.sub_self, List.getElem?_cons_zero, Option.some.injEq] at hy'
            subst hy'
            rw [hyl]
            exact hPz
      · obtain rfl : i = n := Nat.le_antisymm hi (Nat.not_lt.mp hlt)
        refine W.done _ _ _ hst' fun h₂ tk₂ hk₂ => ?_
        obtain ⟨F₂, N₂⟩ := next _ _ F' N' hk₂
        have hn₂ : h₂.Ns C m' := hn'.at' fun o e => hk₂ _ o hCw e
        show wpAny _ A (assign (.Name y py) env (.ref D)) _ _ _
        refine wpAny_assign_Name (wpAny_storeName_local hy F₂.ns (fun h₃ hn₃ hs₃ => ?_) hp)
        have hL₀ : h₀.get? env.locals = none := Heap.get?_none_of_le F₂.above
        have F₃ : Fr h₀ env.locals h₃ (fun z => if z = y then some (.ref D) else m z) := ⟨hn₃, fun c o e => hs₃.extBut c o (fun q => by rw [q, hL₀] at e; cases e) (F₂.keep c o e), F₂.above⟩
        refine ⟨m', hn₂.sameBut hs₃ (Ne.symm hL.1), fun h'' hs'' => fin D h'' _ ys hyl hP' (fun p hp => ?_) (fun p hp => nlt p hp) (F₃.change hs'' (Ne.symm hL.1) hC₀)⟩
        have z : h₃.get? p.1 = some p.2 := hs₃.extBut _ _ (N₂ p hp).2.1 (N₂ p hp).1
        refine ⟨hs''.extBut _ _ ?_ z, (N₂ p hp).2⟩
        rcases List.mem_cons.mp hp with rfl | hp
        · exact hDC
        · exact (off p hp).1
    · rcases List.mem_cons.mp hp with rfl | hp
      · exact ⟨hacc, Ne.symm hL.2, hD₀⟩
      · exact ⟨old _ _ (N p hp).1, (N p hp).2⟩
  have hl := loop _ ⟨s₁.toks, rfl⟩
  exact codeAny_compStart_list hl (W.self 0 _ _ _ hst₁ hl)
theorem fr_new (F : Fr h₀ L s.heap m) {b : Nat} (hb : s.heap.objs.size ≤ b) : h₀.get? b = none := by
  cases e : h₀.get? b with
  | none => rfl
  | some o => exact absurd (Heap.lt_size (F.keep _ _ e)) (Nat.not_lt.mpr hb)
theorem zip_srcW {elt : Expr} {a b : Str} {scope : Scope} {cl : List (Str × Addr)} {Q : Addr → Heap → Nat → Shared → Prop} {l1 l2 : Addr} {xs ys : List Value} {c1 c2 : Nat} {news : List (Addr × Obj)} (Pv : Nat → Value → Prop)
    (hh : A.handled = none) (F : Fr h₀ L s.heap m) (N : News h₀ L s.heap news) (hm1 : (l1, listOf xs.toArray c1) ∈ news) (hm2 : (l2, listOf ys.toArray c2) ∈ news) (hn : min xs.length ys.length ≤ 1000)
    (turn : TurnW prog w A h₀ L m env elt a b scope cl s (min xs.length ys.length) (fun i vals => ∃ x y, xs.toArray[i]? = some x ∧ ys.toArray[i]? = some y ∧ vals = #[x, y]) news Pv)
    (fin : ∀ hp D h tk zs, zs.length = min xs.length ys.length → (∀ j y, zs[j]? = some y → Pv j y) → News h₀ L h ((D, lst zs) :: news) → (∀ p ∈ news, p.1 < D) → Q D h tk { s with heap := hp }) :
    wpAny (model prog w) A (call (.type "zip") [.ref l1, .ref l2]) (SrcW prog w A h₀ L m env elt a b scope cl Q) E s := by
  have hax1 := N _ hm1
  have hax2 := N _ hm2
  have hl1 : s.heap.IsList l1 xs.toArray := ⟨_, hax1.1, rfl, c1, rfl⟩
  have hl2 : s.heap.IsList l2 ys.toArray := ⟨_, hax2.1, rfl, c2, rfl⟩
  have hlt1 : l1 < s.heap.objs.size := Heap.lt_size hax1.1
  have hlt2 : l2 < s.heap.objs.size := Heap.lt_size hax2.1
  have hLs : L < s.heap.objs.size := F.ns.lt
  have Z := ktu_apart _ _ _ hlt1 hlt2
  refine call_zip_2 hl1 hl2 fun h' hz hTI hTO hi1 hi2 hsz hk => ?_
  have W := WalksT.zip2 (prog := prog) (w := w) hh _ _ _ _ _ _ _ Z xs.toArray ys.toArray
  simp only [List.size_toArray] at W
  refine ⟨_, _, _, _, _, _, _, news, Pv, rfl, hh, W, ?_, ⟨hz, hTI, ⟨_, _, hTO⟩, hi1, hi2, hl1.at fun o e => hk _ o e, hl2.at fun o e => hk _ o e⟩, ?_, ?_, ?_, ?_, F.keeps hk, N.grown hk, hn, turn, fun D h tk zs e1 e2 e3 e4 => fin _ D h tk zs e1 e2 e3 e4⟩
  · rintro i vals ⟨x, y, _, _, rfl⟩
    exact ⟨x, y, rfl⟩
  · intro c hc
    show c < h'.objs.size
    rw [hsz]
    have hc' : c = s.heap.objs.size + 4 ∨ c = s.heap.objs.size + 2 ∨ c = s.heap.objs.size + 3 ∨ c = s.heap.objs.size ∨ c = s.heap.objs.size + 1 ∨ c = l1 ∨ c = l2 := by simpa using hc
    have h5 : ∀ {c : Nat}, c < s.heap.objs.size → c < s.heap.objs.size + 5 := fun h => Nat.lt_of_lt_of_le h (Nat.le_add_right _ _)
    rcases hc' with rfl | rfl | rfl | rfl | rfl | rfl | rfl
    · exact Nat.add_lt_add_left (by decide) _
    · exact Nat.add_lt_add_left (by decide) _
    · exact Nat.add_lt_add_left (by decide) _
    · exact Nat.lt_add_of_pos_right (by decide)
    · exact Nat.add_lt_add_left (by decide) _
    · exact h5 hlt1
    · exact h5 hlt2
  · intro hc
    have hc' : L = s.heap.objs.size + 4 ∨ L = s.heap.objs.size + 2 ∨ L = s.heap.objs.size + 3 ∨ L = s.heap.objs.size ∨ L = s.heap.objs.size + 1 ∨ L = l1 ∨ L = l2 := by simpa using hc
    rcases hc' with e | e | e | e | e | e | e
    · exact ktu_ne 4 hLs e
    · exact ktu_ne 2 hLs e
    · exact ktu_ne 3 hLs e
    · exact Nat.ne_of_lt hLs e
    · exact ktu_ne 1 hLs e
    · exact hax1.2.1 e.symm
    · exact hax2.2.1 e.symm
  · intro c hc
    have hc' : c = s.heap.objs.size + 4 ∨ c = s.heap.objs.size + 3 ∨ c = s.heap.objs.size ∨ c = s.heap.objs.size + 1 := by simpa using hc
    rcases hc' with rfl | rfl | rfl | rfl
    · exact fr_new F (Nat.le_add_right _ _)
    · exact fr_new F (Nat.le_add_right _ _)
    · exact fr_new F (Nat.le_refl _)
    · exact fr_new F (Nat.le_add_right _ _)
  · intro p hp hc
    have hc' : p.1 = s.heap.objs.size + 4 ∨ p.1 = s.heap.objs.size + 3 ∨ p.1 = s.heap.objs.size ∨ p.1 = s.heap.objs.size + 1 := by simpa using hc
    have hlp := Heap.lt_size (N p hp).1
    rcases hc' with e | e | e | e
    · exact ktu_ne 4 hlp e
    · exact ktu_ne 3 hlp e
    · exact Nat.ne_of_lt hlp e
    · exact ktu_ne 1 hlp e
noncomputable def TurnL (prog : Program) (w : World) (A : Around) (h₀ : Heap) (L : Addr) (m : Str → Option Value) (env : Env) (elt : Expr) (x : Str) (scope : Scope) (cl : List (Str × Addr)) (s : Shared) (its : Array Value) (news : List (Addr × Obj)) (Pv : Nat → Value → Prop) : Prop :=
  ∀ (i : Nat) (v : Value) (I : Addr) (oI : Obj) (C : Addr) (oC : Obj) (D : Addr) (m₂ : Str → Option Value) (h : Heap) (tk : Nat) (ys : List Value) (E' : Value → Shared → Prop), its[i]? = some v → NsObj oC m₂ → m₂ x = some v → Fr h₀ L h m → News h₀ L h ((I, oI) :: (C, oC) :: (D, lst ys) :: news) → Off3 I C D news → ((@Ne Nat I C) ∧ (@Ne Nat I D) ∧ (@Ne Nat C D)) →
    wpAny (model prog w) A (eval elt (compEnvC scope cl C env)) (fun y s₄ => ∃ h' tk', s₄ = { s with heap := h', toks := tk' } ∧ Fr h₀ L h' m ∧ News h₀ L h' ((I, oI) :: (C, oC) :: (D, lst ys) :: news) ∧ Pv i y) E' { s with heap := h, toks := tk }
theorem rest_ofL {elt : Expr} {x : Str} {scope : Scope} {cl : List (Str × Addr)} {its : Array Value} {ax : Addr} {k₀ : Nat} {news : List (Addr × Obj)} {Fin : List Value → List (Addr × Obj) → Prop} (Pv : Nat → Value → Prop)
    (hm : (ax, ({ cls := .type "list", data := .seq its k₀ } : Obj)) ∈ news)
    (turn : TurnL prog w A h₀ L m env elt x scope cl s its news Pv) (fin : ∀ ys, ys.length = its.size → (∀ j y, ys[j]? = some y → Pv j y) → Fin ys news) :
    ∀ (k i : Nat) (ys : List Value), i + k = its.size → ys.length = i → (∀ j y, ys[j]? = some y → Pv j y) → CompRest prog w A h₀ L m env elt x scope cl s (SrcAt h₀ ax its) (fun i v => its[i]? = some v) Fin k i ys news
  | 0, i, ys, e, hl, hP => CompRest.zero (fin ys (by omega) hP)
  | k + 1, i, ys, e, hl, hP => by
    refine CompRest.succ ?_
    intro v I oI C oC D m₂ h tk E' hv hC hm₂ F N off hne
    refine wpAny_mono (turn i v I oI C oC D m₂ h tk ys E' hv hC hm₂ F N off hne) (fun y s₄ h₄ => ?_) fun _ _ e => e
    obtain ⟨h', tk', rfl, F', N', hy⟩ := h₄
    refine ⟨h', tk', news, rfl, F', N', off, .inr ⟨_, hm, rfl, _, rfl⟩, rest_ofL Pv hm turn fin k (i + 1) (ys ++ [y]) (by omega) (by rw [List.length_append, List.length_singleton, hl]) fun j y' hj => ?_⟩
    by_cases hlt : j < ys.length
    · rw [List.getElem?_append_left hlt] at hj
      exact hP j y' hj
    · rw [List.getElem?_append_right (Nat.not_lt.mp hlt)] at hj
      have hj2 : j = ys.length := by
        have := (List.getElem?_eq_some_iff.mp hj).1
        simp only [List.length_singleton] at this
        omega
      subst hj2
      simp only [Nat.sub_self, List.getElem?_cons_zero, Option.some.injEq] at hj
      subst hj
      rw [hl]
      exact hy
end

end

/-! text: zin -/
section
/-! ## from the head that counts the tokens to the head of the texts -/
theorem frag_nil {h : Heap} : Frag.In [] h := fun a o e => by simp at e
theorem frag_cons {a : Nat} {o : Obj} {K : Frag} {h : Heap} (e : h.get? a = some o) (r : Frag.In K h) : Frag.In ((a, o) :: K) h := by
  intro b p hb
  rw [List.lookup_cons] at hb
  by_cases hab : b = a
  · subst hab
    simp only [beq_self_eq_true, Option.some.injEq] at hb
    subst hb
    exact e
  · have : (b == a) = false := beq_eq_false_iff_ne.mpr hab
    rw [this] at hb
    exact r b p hb
theorem frag_of {P : Params} {h : Heap} (X : Frag.In (hd.heap_162 P) h) : Frag.In (hk.heap_1 P) h := by
  unfold hk.heap_1
  repeat' (first | exact frag_nil | refine frag_cons (X _ _ (by kernel_rfl!)) ?_)

end

/-! the lines of the walks -/
section
local macro_rules | `(tactic| walk_at "steps0") => `(tactic| repeat' (first | (k_unfold; (try dsimp only)) | walk1 | (dsimp only; walk1) | fail "no step"))
local macro_rules | `(tactic| k_steps) => `(tactic| ((try k_fold); walk_at "steps0"))
local macro_rules | `(tactic| walk_at $s:str) => if ("exec While;exec While BoolOp cons nil;pyIter ref".splitOn ";").contains s.getString then `(tactic| refine Halt.mk ?_) else Lean.Macro.throwUnsupported
local macro_rules | `(tactic| walk_at "CutPost") => `(tactic| (dsimp only [CutPost]))
local macro_rules | `(tactic| walk_at "WPost") => `(tactic| (dsimp only [WPost]))
local macro_rules | `(tactic| walk_at "subscriptTail Name Slice str ref") => `(tactic| ((with_reducible rename Fr _ _ _ _ => F'); (with_reducible rename News _ _ _ _ => N'); (refine' slice_strA (hsz := (by size_fits)) (s := ⟨_, _, _, _, _⟩) (by (first | exact OptV.some | exact OptV.none)) (by (first | exact OptV.some | exact OptV.none)) F' N' ?_ (by with_unfolding_all rfl) (by (intro _; with_unfolding_all rfl))); intro _ _ _ F' N' _ hf; dsimp only [SliceLen] at hf; (try replace hf := hf (by omega) (by omega)); (try k_sweep)))
local macro_rules | `(tactic| walk_at $s:str) => if ("subscriptTail Name BinOp str int;subscriptTail Name Name str int".splitOn ";").contains s.getString then `(tactic| (refine item_str (fitsSsize_of (N := 9223372036854775808) (by omega) (by omega) (Int.le_refl _)) (by omega) (by omega) ?_; intro _)) else Lean.Macro.throwUnsupported
local macro_rules | `(tactic| walk_at "ite") => `(tactic| (k_here; first | with_reducible refine ite_tt ?_ | with_reducible refine ite_ff ?_ | refine ite_pos (by walk_at "iteC") ?_ | refine ite_neg (by walk_at "iteC") ?_))
local macro_rules | `(tactic| walk_at "iteC") => `(tactic| first | assumption | omega | (simp only [bne_iff_ne, beq_iff_eq, ne_eq, decide_eq_true_eq]; omega))
local macro_rules | `(tactic| walk_at "exec If") => `(tactic| refine wpAny_If ?_)
local macro_rules | `(tactic| walk_at $s:str) => if ("execs cons AugAssign nil;execs cons AugAssign cons;execs cons Assign nil;execs cons Assign cons;execs cons If nil;execs cons If cons;execs cons For nil;execs cons For cons;execs cons While nil;execs cons While cons;execs cons Return nil;execs cons Return cons;execs cons Expr nil;execs cons Expr cons".splitOn ";").contains s.getString then `(tactic| refine wpAny_execs_cons ?_) else Lean.Macro.throwUnsupported
local macro_rules | `(tactic| walk_at "truthy str") => `(tactic| refine SBL.truthy (by omega) ?_)
local macro_rules | `(tactic| walk_at "setItem ref int int") => `(tactic| (k_dflt (refine' ksa_set (by k_asm) (by k_asm) (by k_upd) (by with_reducible assumption) (by omega) (by omega) (by omega) ?_; k_whole); intro h' F' N' hi' hl' hs'; (try k_sweep)))
local macro_rules | `(tactic| walk_at "getItem ref int") => `(tactic| (k_dflt (refine' ksa_get (by k_asm) (by k_mem) (by with_reducible assumption) (by omega) (by omega) (by omega) ?_; k_whole); intro _))
local macro_rules | `(tactic| walk_at "subscriptTail Name Name ref int") => `(tactic| (k_dflt (refine' ksa_sub (by k_asm) (by k_mem) (by with_reducible assumption) (by omega) (by omega) (by omega) ?_ (by with_unfolding_all rfl); k_whole); intro _))
local macro_rules | `(tactic| walk_at "eval Name") => `(tactic| (k_dflt (first
  | (refine' ldE ?k1 ?k2 ?_ ?hk ?hl ?hd; walk_at "nm"; (case k2 => (walk_at "env")); k_whole)
  | (refine' name_K ?k0 ?k1 ?k2 ?k3 ?_ ?hk ?hl ?hd; walk_at "nm0"; k_whole)
  | (refine' name_B ?k0 ?k1 ?k2 ?k3 ?k4 ?k5 ?_ ?hk ?hl ?hd; walk_at "nm0"; (case k4 => boot_by_name); (case k5 => decide +kernel); k_whole))))
local macro_rules | `(tactic| walk_at "nm") => `(tactic| (((case hl => kernel_rfl!); (case hk => exact rfl); (case hd => kernel_rfl!); (case k1 => k_asm))))
local macro_rules | `(tactic| walk_at "nm0") => `(tactic| ((case k0 => with_reducible assumption); walk_at "nm"; (case k2 => k_asm); (case k3 => k_is)))
local macro_rules | `(tactic| walk_at "env") => `(tactic| first | with_reducible exact EnvAt.hit | ((with_reducible apply EnvAt.miss); (simp only [String.reduceNe]); walk_at "env") | exact (rfl : _ = _))
local macro_rules | `(tactic| kst_all1) => `(tactic| first | exact EnvHas.nil | (refine EnvHas.cons ?fma ?fmb; (case fma => (walk_at "env")); (case fmb => kst_all1)))
local macro_rules | `(tactic| k_upd) => `(tactic| (refine' Upd.head (by with_reducible assumption)))
local macro_rules | `(tactic| kst_in) => `(tactic| first | exact fun _ h9 => h9 | exact fun _ h9 => List.mem_cons_of_mem _ h9 | exact fun _ h9 => List.mem_cons_of_mem _ (List.mem_cons_of_mem _ h9))
local macro_rules | `(tactic| walk_at "call builtin:min cons nil") => `(tactic| ((with_unfolding_all refine' min_two_V (by rfl) (by k_asm) (by k_asm) ?_); intro h' tk' r' t' hr' F' N'; (try k_sweep)))
local macro_rules | `(tactic| o_head [$t]) => `(tactic| (k_dflt (refine' ($t) _ _ _ _ _ _ _ _ _ _ _ _ _ _ _ _ _ (by k_asm) (by k_asm) (by k_asm) (by k_asm) (by k_asm) (by exact rfl) (by ktr_room) (by ktr_units) ?_); intro r9 h9 tk9 n9 F9 N9 hp9; obtain ⟨e9, t9, e9'⟩ := hp9; subst e9 e9'; (try dsimp only); (try k_sweep)))
local macro_rules | `(tactic| walk_at "toks") => `(tactic| ((try dsimp only); repeat (first | with_reducible assumption | with_reducible exact Nat.le_refl _ | refine Nat.le_trans ?_ (Nat.le_add_right _ _))))
local macro_rules | `(tactic| walk_at "go_cons") => `(tactic| (refine Halt.go ?_; with_reducible refine wpAny_execs_cons ?_))
local macro_rules | `(tactic| walk_at "compN") => `(tactic| ((with_reducible show wpAny _ _ (eval (Expr.Name _ _) (compEnvC _ _ _ _)) _ _ _); k_dflt (first
  | refine LCgL.ld_own (by k_asm) (by k_mem) (by with_reducible assumption) (by with_reducible assumption) ?_
  | (refine' lcf_cell ?N ?c ?m ?d ?_ ?a ?b; (case a => exact rfl); (case b => kernel_rfl!); (case N => k_asm); (case c => exact rfl); (case m => k_mem); (case d => with_reducible assumption); k_whole)
  | refine LCgL.ld_global (by k_asm) (by k_asm) (by k_asm) (by k_is) ?_
  | refine LCgL.ld_built (by k_asm) (by k_asm) (by k_asm) (by k_is) (by boot_by_name) (by decide) ?_)))

/-! text: lev -/
section
section
local macro_rules | `(tactic| walk_at "exec If Compare cons nil") => `(tactic| refine Halt.mk ?_)
local macro_rules | `(tactic| walk_at "call ref cons nil") => `(tactic| o_head [sub_spec _ _ _ _ _ _ _ _ _ (by omega) (by omega)])
local macro_rules | `(tactic| walk_at "call type:list cons nil") => `(tactic| ((rename IsRange _ _ _ _ _ _ _ _ => rgX); (refine' list_range2 (by rfl) (by k_asm) (by k_asm) rgX (by exact small_two _ (by assumption)) (by exact size_two _ (by assumption)) (by omega) ?_); intro D' vs' c' h' tk' F' N' l1 hI'; (try k_lt l1); (try k_sweep)))
set_option maxHeartbeats 8000000 in
theorem lev_spec (w : World) (mean : ExcName → Option Value) (mg mb : Str → Option Value) (a b : Str) (k : Int) (t1 t2 t3 : Tok) (news : List (Addr × Obj)) (hx : a.length ≤ 4) (hy : b.length ≤ 4) :
    Spec w mean mg mb 2 28 [.str a t1, .str b t2, .int k t3] news (fun r n' => n' = news ∧ ∃ t, r = .int (lev a b k) t) := by
  unfold Spec
  w_top off
  k_fill
  intro dp un gd cn cs fa ccd cl outer A₀ base h₀ L m s Q E B F X N T hk hdp hun hret
  refine wpAny_call ?_
  k_dflt cell_enter
  rename_i g1 L1 h1 FG1 F1 N1 B1 X1 T1
  replace F1 := fr_kst [(Str.ofString "a", Value.str a t1), (Str.ofString "b", Value.str b t2), (Str.ofString "max_cost", Value.int k t3)] F1 (by kst_all)
  dsimp only [kstB] at F1
  k_steps
  refine Halt.go (wpAny_If ?_)
  k_steps
  · refine hret _ _ _ _ (by k_asm) (by k_asm) ⟨rfl, ktn_int (lev_same (by assumption)).symm⟩
  refine Halt.go ?_
  rename Fr _ _ _ _ => Fo
  rename News _ _ _ _ => No
  refine cut_at (σ := Int × Tok) (fun _ => news) (fun c => [(Str.ofString "pre", .int c.1 c.2), (Str.ofString "a", .str a t1), (Str.ofString "b", .str b t2), (Str.ofString "max_cost", .int k t3)])
    (fun c => c.1 = (cplG a.cps.toList b.cps.toList : Int)) (g := g1) (L := L1) ?_ ?_
  · refine while_cut (σ := Int × Tok) (fun _ => news) (fun c => [(Str.ofString "pre", .int c.1 c.2), (Str.ofString "a", .str a t1), (Str.ofString "b", .str b t2), (Str.ofString "max_cost", .int k t3)])
      (fun c => 0 ≤ c.1 ∧ c.1 ≤ (a.length : Int) ∧ c.1 ≤ (b.length : Int) ∧ CplAt a.cps.toList b.cps.toList c.1.toNat) (fun c => ((a.length : Int) - c.1).toNat) (0, _) Fo No (by kst_in) (by kst_all) ⟨by omega, by omega, by omega, cplAt_zero _ _⟩ ?_
    clear Fo No
    rintro ⟨p, tp⟩ u h tk ⟨q0, q1, q2, q3⟩ F2 N2
    dsimp only at q0 q1 q2 q3
    dsimp only [kstB] at F2
    k_steps
    · refine cut_on (_, _) (by k_asm) (by k_asm) (by kst_all) ⟨⟨?_, ?_, ?_, ?_⟩, ?_⟩ <;> first | omega | exact w1_step (by omega) (by omega) (by omega) (by assumption) (by assumption) | (dsimp only; omega)
    · (refine cut_on (_, _) (by k_asm) (by k_asm) (by kst_all) ?_; exact w1_ne (by omega) (by omega) (by omega) (by assumption) (by assumption))
    · (refine cut_on (_, _) (by k_asm) (by k_asm) (by kst_all) ?_; exact w1_right (by omega) (by omega) (by assumption))
    · (refine cut_on (_, _) (by k_asm) (by k_asm) (by kst_all) ?_; exact w1_left (by omega) (by omega) (by assumption))
  clear Fo No
  rintro ⟨p, tp⟩ h tk u hp F2 N2
  dsimp only at hp
  subst hp
  dsimp only [kstB] at F2
  k_steps
  generalize hA : Txt.slice a (some (cplG a.cps.toList b.cps.toList : Int)) none = a1 at *
  generalize hB : Txt.slice b (some (cplG a.cps.toList b.cps.toList : Int)) none = b1 at *
  have eA : a1.cps.toList = a.cps.toList.drop (cplG a.cps.toList b.cps.toList) := by rw [← hA]; exact slice_drop (by omega) (cpl_len_left a b)
  have eB : b1.cps.toList = b.cps.toList.drop (cplG a.cps.toList b.cps.toList) := by rw [← hB]; exact slice_drop (by omega) (cpl_len_right a b)
  clear hA hB
  rename Fr _ _ _ _ => Fo
  rename News _ _ _ _ => No
  refine cut_at (σ := Int × Tok × Tok × Tok) (fun _ => news) (fun c => [(Str.ofString "post", .int c.1 c.2.1), (Str.ofString "a", .str a1 c.2.2.1), (Str.ofString "b", .str b1 c.2.2.2), (Str.ofString "max_cost", .int k t3)])
    (fun c => c.1 = -(cplG a1.cps.toList.reverse b1.cps.toList.reverse : Int)) (g := g1) (L := L1) ?_ ?_
  · refine while_cut (σ := Int × Tok × Tok × Tok) (fun _ => news) (fun c => [(Str.ofString "post", .int c.1 c.2.1), (Str.ofString "a", .str a1 c.2.2.1), (Str.ofString "b", .str b1 c.2.2.2), (Str.ofString "max_cost", .int k t3)])
      (fun c => c.1 ≤ 0 ∧ -c.1 ≤ (a1.length : Int) ∧ -c.1 ≤ (b1.length : Int) ∧ CplAt a1.cps.toList.reverse b1.cps.toList.reverse (-c.1).toNat) (fun c => ((a1.length : Int) + c.1).toNat) (0, _, _, _) Fo No (by kst_in) (by kst_all) ⟨by omega, by omega, by omega, cplAt_zero _ _⟩ ?_
    clear Fo No
    rintro ⟨p, tp, ta, tb⟩ u h tk ⟨q0, q1, q2, q3⟩ F2 N2
    dsimp only at q0 q1 q2 q3
    dsimp only [kstB] at F2
    k_steps
    · (refine cut_on (_, _, _, _) (by k_asm) (by k_asm) (by kst_all) ?_; dsimp only; exact ⟨⟨by omega, by omega, by omega, w2_step (by omega) (by omega) (by omega) (by assumption) (by assumption)⟩, by omega⟩)
    · (refine cut_on (_, _, _, _) (by k_asm) (by k_asm) (by kst_all) ?_; dsimp only; exact w2_ne (by omega) (by omega) (by omega) (by assumption) (by assumption))
    · (refine cut_on (_, _, _, _) (by k_asm) (by k_asm) (by kst_all) ?_; dsimp only; exact w2_right (by omega) (by omega) (by assumption))
    · (refine cut_on (_, _, _, _) (by k_asm) (by k_asm) (by kst_all) ?_; dsimp only; exact w2_left (by omega) (by omega) (by assumption))
    · (refine cut_on (_, _, _, _) (by k_asm) (by k_asm) (by kst_all) ?_; dsimp only; exact ⟨⟨by omega, by omega, by omega, w2_step (by omega) (by omega) (by omega) (by assumption) (by assumption)⟩, by omega⟩)
    · (refine cut_on (_, _, _, _) (by k_asm) (by k_asm) (by kst_all) ?_; dsimp only; exact w2_ne (by omega) (by omega) (by omega) (by assumption) (by assumption))
    · (refine cut_on (_, _, _, _) (by k_asm) (by k_asm) (by kst_all) ?_; dsimp only; exact w2_right (by omega) (by omega) (by assumption))
    · (refine cut_on (_, _, _, _) (by k_asm) (by k_asm) (by kst_all) ?_; dsimp only; exact w2_left (by omega) (by omega) (by assumption))
  clear Fo No
  rintro ⟨q, tq, ta, tb⟩ h tk u hq F2 N2
  dsimp only at hq
  dsimp only [kstB] at F2
  have q1 := cpl_rev_left a1 b1
  have q2 := cpl_rev_right a1 b1
  have q0 : q ≤ 0 := by omega
  have q3 : -q ≤ (a1.length : Int) := by omega
  have q4 : -q ≤ (b1.length : Int) := by omega
  try dsimp only
  walk1
  refine cut_at (σ := Str × Tok) (fun _ => news) (fun c => [(Str.ofString "post", .int q tq), (Str.ofString "a", .str c.1 c.2), (Str.ofString "b", .str b1 tb), (Str.ofString "max_cost", .int k t3)])
    (fun c => c.1.cps.toList = a1.cps.toList.take (a1.cps.toList.length - cplG a1.cps.toList.reverse b1.cps.toList.reverse) ∧ c.1.length ≤ a1.length) (g := g1) (L := L1) ?_ ?_
  · k_steps
    · (refine cut_on (_, _) (by k_asm) (by k_asm) (by kst_all) ⟨take_neg_cut hq (by assumption) (by omega), by assumption⟩)
    · (refine cut_on (_, _) (by k_asm) (by k_asm) (by kst_all) ⟨take_zero_cut hq (by assumption), by assumption⟩)
  clear F2 N2
  rintro ⟨a2, ta2⟩ h tk u ⟨ea2, la2⟩ F2 N2
  dsimp only at ea2 la2
  dsimp only [kstB] at F2
  try dsimp only
  walk1
  refine cut_at (σ := Str × Tok) (fun _ => news) (fun c => [(Str.ofString "a", .str a2 ta2), (Str.ofString "b", .str c.1 c.2), (Str.ofString "max_cost", .int k t3)])
    (fun c => c.1.cps.toList = b1.cps.toList.take (b1.cps.toList.length - cplG a1.cps.toList.reverse b1.cps.toList.reverse) ∧ c.1.length ≤ b1.length) (g := g1) (L := L1) ?_ ?_
  · k_steps
    · (refine cut_on (_, _) (by k_asm) (by k_asm) (by kst_all) ⟨take_neg_cut hq (by assumption) (by omega), by assumption⟩)
    · (refine cut_on (_, _) (by k_asm) (by k_asm) (by kst_all) ⟨take_zero_cut hq (by assumption), by assumption⟩)
  clear F2 N2
  rintro ⟨b2, tb2⟩ h tk u ⟨eb2, lb2⟩ F2 N2
  dsimp only at eb2 lb2
  dsimp only [kstB] at F2
  have hlev : lev a b k = coreG costN a2.cps.toList b2.cps.toList k := lev_core (by assumption) eA eB ea2 eb2
  have la : a2.length ≤ 4 := by omega
  have lb : b2.length ≤ 4 := by omega
  clear ea2 eb2 la2 lb2 q0 q1 q2 q3 q4 hq eA eB
  try dsimp only
  k_steps
  all_goals try exact hret _ _ _ _ (by k_asm) (by k_asm) ⟨rfl, ktn_int ((core_nil (by omega)).trans hlev.symm)⟩
  refine Halt.go ?_
  rename Fr _ _ _ _ => Fo
  rename News _ _ _ _ => No
  refine cut_at (σ := (Str × Tok) × (Str × Tok)) (fun _ => news) (fun c => [(Str.ofString "a", .str c.1.1 c.1.2), (Str.ofString "b", .str c.2.1 c.2.2), (Str.ofString "max_cost", .int k t3)])
    (fun c => c.1.1.length ≤ 4 ∧ c.2.1.length ≤ 4 ∧ 1 ≤ c.1.1.length ∧ c.1.1.length ≤ c.2.1.length ∧ lev a b k = sortedG costN c.1.1.cps.toList c.2.1.cps.toList k) (g := g1) (L := L1) ?_ ?_
  · refine wpAny_If ?_
    k_steps
    · (rename News _ _ _ (_ :: _) => nW; refine cut_on ((_, _), (_, _)) (by k_asm) (cb_drop nW (fun _ h9 => List.mem_cons_of_mem _ h9)) (by kst_all) ?_; dsimp only; exact ⟨by omega, by omega, by omega, by omega, hlev.trans (core_swap (by assumption) (by assumption) (by assumption))⟩)
    · (refine cut_on ((_, _), (_, _)) (by k_asm) (by k_asm) (by kst_all) ?_; dsimp only; exact ⟨by omega, by omega, by omega, by omega, hlev.trans (core_stay (by assumption) (by assumption) (by assumption))⟩)
  clear Fo No hlev la lb
  rintro ⟨⟨x, tx⟩, ⟨y, ty⟩⟩ h tk u ⟨lx, ly, lx1, lxy, hlev⟩ F2 N2
  dsimp only at lx ly lx1 lxy hlev
  dsimp only [kstB] at F2
  try dsimp only
  k_steps
  refine Halt.go (wpAny_If ?_)
  k_steps
  · exact hret _ _ _ _ (by k_asm) (by k_asm) ⟨rfl, ktn_int ((sorted_far (by omega)).trans hlev.symm)⟩
  replace hlev := hlev.trans (sorted_near (by omega))
  refine Halt.go ?_
  rename IsRange _ _ _ _ _ _ _ _ => rgX
  rename News _ _ _ (_ :: _) => No
  rename Fr _ _ _ _ => Fo
  rename IntsAre _ _ => hI
  rename (∀ p ∈ news, p.1 < _) => l1
  have hD := ne_of_lts l1
  clear l1
  refine range_cut (σ := List Value × List Int × Int × Tok) (fun c => (_, listOf c.1.toArray _) :: news) (fun c => [(Str.ofString "row", .ref _), (Str.ofString "result", .int c.2.2.1 c.2.2.2), (Str.ofString "a", .str x tx), (Str.ofString "b", .str y ty), (Str.ofString "max_cost", .int k t3)])
    (fun i c => IntsAre c.1 c.2.1 ∧ c.2.1.length = x.length ∧ lev a b k = rowsG costN x.cps.toList y.cps.toList k (y.length - i) i c.2.1 c.2.2.1) (n := y.length) (_, _, _, _) rfl rgX (small_one (by omega) (by omega) (by omega) (by omega)) (by rw [rangeSize_nat]; omega) Fo No (by kst_in) (by kst_all) (by intro c; rfl) ⟨hI, by simp [row0], hlev⟩ ?_ ?_
  · clear Fo No hlev hI rgX
    rintro i ⟨vs, row, res, tr⟩ u h tk t own hi ⟨hI, hlen, hlev⟩ hoff F2 N2
    dsimp only at hI hlen hlev
    dsimp only [kstB] at F2
    simp only [Int.zero_add] at F2
    dsimp only at N2
    have hne := own_ne hD hoff
    clear hoff hD
    k_steps
    refine Halt.go ?_
    rename IsRange _ _ _ _ _ _ _ _ => rgX
    rename News _ _ _ (_ :: _) => No
    rename Fr _ _ _ _ => Fo
    refine range_cut (σ := List Value × List Int × (Int × Tok) × (Int × Tok) × (Int × Tok)) (fun c => (_, listOf c.1.toArray _) :: (news ++ own)) (fun c => [(Str.ofString "row", .ref _), (Str.ofString "distance", .int c.2.2.1.1 c.2.2.1.2), (Str.ofString "result", .int c.2.2.2.1.1 c.2.2.2.1.2), (Str.ofString "minimum", .int c.2.2.2.2.1 c.2.2.2.2.2), (Str.ofString "bchar", .str (Txt.item y i) _), (Str.ofString "bindex", .int i t), (Str.ofString "a", .str x tx), (Str.ofString "b", .str y ty), (Str.ofString "max_cost", .int k t3)])
      (fun j c => IntsAre c.1 c.2.1 ∧ c.2.1.length = x.length ∧ rowAt x y i row = cellsG costN ((y.cps.toList[i]?).getD 0) x.cps.toList (x.length - j) j c.2.1 c.2.2.1.1 c.2.2.2.1.1 c.2.2.2.2.1) (n := x.length) (_, _, (_, _), (_, _), (_, _)) rfl rgX (small_one (by omega) (by omega) (by omega) (by omega)) (by rw [rangeSize_nat]; omega) Fo No (by kst_in) (by kst_all) (by intro c; rfl) ⟨hI, hlen, rowAt_start⟩ ?_ ?_
    · clear Fo No rgX hI hlen hlev
      rintro j ⟨vs2, row2, ⟨d, td⟩, ⟨res2, tr2⟩, ⟨mn, tm⟩⟩ u h tk t' own' hj ⟨hI, hlen, hC⟩ hoff' F2 N2
      dsimp only at hI hlen hC
      dsimp only [kstB] at F2
      simp only [Int.zero_add] at F2
      dsimp only at N2
      simp only [List.cons_append] at N2
      have hne' := own_ne hne hoff'
      clear hoff' hne
      k_steps
      refine Halt.go (wpAny_If ?_)
      k_steps
      · rename (_ = min res2 _) => h1
        rename (_ = min (_ + 2) _) => h2
        refine' cut_on (?v1a, ?v2a, (?v3a, ?v4a), (?v5a, ?v6a), (?v7a, ?v8a)) ?Fa ?Na ?hka ?hpa
        case Na => k_asm
        case Fa => k_asm
        case hka => kst_all
        case hpa => exact ⟨by with_reducible assumption, (List.length_set ..).trans hlen, cells_lt hj hi hC h1 h2 (by assumption)⟩
      · rename (_ = min res2 _) => h1
        rename (_ = min (_ + 2) _) => h2
        refine' cut_on (?v1b, ?v2b, (?v3b, ?v4b), (?v5b, ?v6b), (?v7b, ?v8b)) ?Fb ?Nb ?hkb ?hpb
        case Nb => k_asm
        case Fb => k_asm
        case hkb => kst_all
        case hpb => exact ⟨by with_reducible assumption, (List.length_set ..).trans hlen, cells_ge hj hi hC h1 h2 (by assumption)⟩
    · clear Fo No rgX hI hlen
      rintro ⟨vs2, row2, ⟨d, td⟩, ⟨res2, tr2⟩, ⟨mn, tm⟩⟩ u h tk ⟨hI, hlen, hC⟩ F2 N2
      dsimp only at hI hlen hC
      dsimp only [kstB] at F2
      dsimp only at N2
      k_steps
      refine Halt.go (wpAny_If ?_)
      k_steps
      · rename News _ _ _ (_ :: _) => kN
        exact hret _ _ _ _ (by k_asm) (cb_drop kN (by intro p hp; exact List.mem_cons_of_mem _ (List.mem_append.mpr (.inl hp)))) ⟨rfl, ktn_int (rows_cut hlev hi hC (by assumption))⟩
      · refine' cut_on (?v1c, row2, ?v3c, ?v4c) ?Fc ?Nc ?hkc ?hpc
        case Nc => k_asm
        case Fc => k_asm
        case hkc => kst_all
        case hpc => exact ⟨hI, hlen, rows_next hlev hi hC (by assumption)⟩
  · clear Fo No hlev hI rgX
    rintro ⟨vs, row, res, tr⟩ u h tk ⟨hI, hlen, hlev⟩ F2 N2
    dsimp only at hI hlen hlev
    dsimp only [kstB] at F2
    dsimp only at N2
    try dsimp only
    k_steps
    rename News _ _ _ (_ :: _) => kN
    refine hret _ _ _ _ (by k_asm) (cb_drop kN (by kst_in)) ⟨rfl, ktn_int ?_⟩
    rw [Nat.sub_self] at hlev
    exact hlev.symm
end

end

/-! text: ops -/
section
section
local macro_rules | `(tactic| walk_at "binaryOp Mult int int") => `(tactic| (refine mul_int ?_ (by assumption)))
local macro_rules | `(tactic| walk_at "binaryOp LShift int int") => `(tactic| (refine lshift_int (by assumption) (by assumption) ?_))
set_option maxHeartbeats 8000000 in
theorem add_spec (w : World) (mean : ExcName → Option Value) (mg mb : Str → Option Value) (a b : Int) (t1 t2 : Tok) (news : List (Addr × Obj)) :
    Spec w mean mg mb 1 43 [.int a t1, .int b t2] news (fun r n' => n' = news ∧ ∃ t, r = .int (a + b) t) := by
  unfold Spec
  w_top off
  k_fill
  intro dp un gd cn cs fa ccd cl outer A₀ base h₀ L m s Q E B F X N T hk hdp hun hret
  refine wpAny_call ?_
  k_dflt cell_enter
  k_steps
  exact hret _ _ _ _ (by k_asm) (by k_asm) ⟨rfl, ktn_int rfl⟩
set_option maxHeartbeats 8000000 in
theorem sub_op_spec (w : World) (mean : ExcName → Option Value) (mg mb : Str → Option Value) (a b : Int) (t1 t2 : Tok) (news : List (Addr × Obj)) :
    Spec w mean mg mb 1 78 [.int a t1, .int b t2] news (fun r n' => n' = news ∧ ∃ t, r = .int (a - b) t) := by
  unfold Spec
  w_top off
  k_fill
  intro dp un gd cn cs fa ccd cl outer A₀ base h₀ L m s Q E B F X N T hk hdp hun hret
  refine wpAny_call ?_
  k_dflt cell_enter
  k_steps
  exact hret _ _ _ _ (by k_asm) (by k_asm) ⟨rfl, ktn_int rfl⟩
set_option maxHeartbeats 8000000 in
theorem and_spec (w : World) (mean : ExcName → Option Value) (mg mb : Str → Option Value) (a b : Int) (t1 t2 : Tok) (news : List (Addr × Obj)) :
    Spec w mean mg mb 1 50 [.int a t1, .int b t2] news (fun r n' => n' = news ∧ ∃ t, r = .int (Builtin.bitAnd a b) t) := by
  unfold Spec
  w_top off
  k_fill
  intro dp un gd cn cs fa ccd cl outer A₀ base h₀ L m s Q E B F X N T hk hdp hun hret
  refine wpAny_call ?_
  k_dflt cell_enter
  k_steps
  exact hret _ _ _ _ (by k_asm) (by k_asm) ⟨rfl, ktn_int rfl⟩
set_option maxHeartbeats 8000000 in
theorem or_spec (w : World) (mean : ExcName → Option Value) (mg mb : Str → Option Value) (a b : Int) (t1 t2 : Tok) (news : List (Addr × Obj)) :
    Spec w mean mg mb 1 71 [.int a t1, .int b t2] news (fun r n' => n' = news ∧ ∃ t, r = .int (Builtin.bitOr a b) t) := by
  unfold Spec
  w_top off
  k_fill
  intro dp un gd cn cs fa ccd cl outer A₀ base h₀ L m s Q E B F X N T hk hdp hun hret
  refine wpAny_call ?_
  k_dflt cell_enter
  k_steps
  exact hret _ _ _ _ (by k_asm) (by k_asm) ⟨rfl, ktn_int rfl⟩
set_option maxHeartbeats 8000000 in
theorem xor_spec (w : World) (mean : ExcName → Option Value) (mg mb : Str → Option Value) (a b : Int) (t1 t2 : Tok) (news : List (Addr × Obj)) :
    Spec w mean mg mb 1 85 [.int a t1, .int b t2] news (fun r n' => n' = news ∧ ∃ t, r = .int (Builtin.bitXor a b) t) := by
  unfold Spec
  w_top off
  k_fill
  intro dp un gd cn cs fa ccd cl outer A₀ base h₀ L m s Q E B F X N T hk hdp hun hret
  refine wpAny_call ?_
  k_dflt cell_enter
  k_steps
  exact hret _ _ _ _ (by k_asm) (by k_asm) ⟨rfl, ktn_int rfl⟩
set_option maxHeartbeats 8000000 in
theorem mul_spec (w : World) (mean : ExcName → Option Value) (mg mb : Str → Option Value) (a b : Int) (t1 t2 : Tok) (news : List (Addr × Obj)) (hm : IntMulOk a b) :
    Spec w mean mg mb 1 64 [.int a t1, .int b t2] news (fun r n' => n' = news ∧ ∃ t, r = .int (a * b) t) := by
  unfold Spec
  w_top off
  k_fill
  intro dp un gd cn cs fa ccd cl outer A₀ base h₀ L m s Q E B F X N T hk hdp hun hret
  refine wpAny_call ?_
  k_dflt cell_enter
  k_steps
  exact hret _ _ _ _ (by k_asm) (by k_asm) ⟨rfl, ktn_int rfl⟩
set_option maxHeartbeats 8000000 in
theorem lshift_spec (w : World) (mean : ExcName → Option Value) (mg mb : Str → Option Value) (a b : Int) (t1 t2 : Tok) (news : List (Addr × Obj)) (hn : 0 ≤ b) (hsz : (Builtin.Int.intBits a : Int) + b ≤ 2 ^ 27) :
    Spec w mean mg mb 1 57 [.int a t1, .int b t2] news (fun r n' => n' = news ∧ ∃ t, r = .int (a * 2 ^ b.toNat) t) := by
  unfold Spec
  w_top off
  k_fill
  intro dp un gd cn cs fa ccd cl outer A₀ base h₀ L m s Q E B F X N T hk hdp hun hret
  refine wpAny_call ?_
  k_dflt cell_enter
  k_steps
  exact hret _ _ _ _ (by k_asm) (by k_asm) ⟨rfl, ktn_int rfl⟩
set_option maxHeartbeats 8000000 in
theorem getitem_spec (w : World) (mean : ExcName → Option Value) (mg mb : Str → Option Value) (D : Addr) (vs : List Value) (ns : List Int) (c : Nat) (b : Int) (t2 : Tok) (news : List (Addr × Obj)) (hD : (D, listOf vs.toArray c) ∈ news) (hI : IntsAre vs ns) (h0 : 0 ≤ b) (h1 : b < ns.length) (h2 : ns.length ≤ 100) :
    Spec w mean mg mb 1 92 [.ref D, .int b t2] news (fun r n' => n' = news ∧ ∃ t, r = .int (ns.getD b.toNat 0) t) := by
  unfold Spec
  w_top off
  k_fill
  intro dp un gd cn cs fa ccd cl outer A₀ base h₀ L m s Q E B F X N T hk hdp hun hret
  refine wpAny_call ?_
  k_dflt cell_enter
  k_steps
  exact hret _ _ _ _ (by k_asm) (by k_asm) ⟨rfl, ktn_int rfl⟩
set_option maxHeartbeats 8000000 in
theorem setitem_spec (w : World) (mean : ExcName → Option Value) (mg mb : Str → Option Value) (D : Addr) (vs : List Value) (ns : List Int) (c : Nat) (b x : Int) (t2 t3 : Tok) (news : List (Addr × Obj)) (hne : ∀ p ∈ news, p.1 ≠ D) (hI : IntsAre vs ns) (h0 : 0 ≤ b) (h1 : b < ns.length) (h2 : ns.length ≤ 100) :
    Spec w mean mg mb 1 106 [.ref D, .int b t2, .int x t3] ((D, listOf vs.toArray c) :: news) (fun r n' => r = .none ∧ ∃ t, n' = (D, listOf (vs.set b.toNat (.int x t)).toArray c) :: news) := by
  unfold Spec
  w_top off
  k_fill
  intro dp un gd cn cs fa ccd cl outer A₀ base h₀ L m s Q E B F X N T hk hdp hun hret
  refine wpAny_call ?_
  k_dflt cell_enter
  k_steps
  exact hret _ _ _ _ (by k_asm) (by k_asm) ⟨rfl, t3, rfl⟩
end

end

/-! text: calls trans -/
section
local macro_rules | `(tactic| walk_at "call ref cons nil") => `(tactic| o_head [add_spec _ _ _ _ _ _ _ _ _])
local macro_rules | `(tactic| walk_at "call ref cons nil") => `(tactic| o_head [sub_op_spec _ _ _ _ _ _ _ _ _])
local macro_rules | `(tactic| walk_at "call ref cons nil") => `(tactic| o_head [and_spec _ _ _ _ _ _ _ _ _])
local macro_rules | `(tactic| walk_at "call ref cons nil") => `(tactic| o_head [or_spec _ _ _ _ _ _ _ _ _])
local macro_rules | `(tactic| walk_at "call ref cons nil") => `(tactic| o_head [xor_spec _ _ _ _ _ _ _ _ _])
local macro_rules | `(tactic| walk_at $s:str) => if ("exec For;exec For Name Tuple cons nil;exec For Name Call cons nil".splitOn ";").contains s.getString then `(tactic| (k_here; (rename Fr _ _ _ _ => lF'); (with_unfolding_all refine' For_invVF lF' (by exact rfl) (by exact rfl) ?_; k_whole))) else Lean.Macro.throwUnsupported

section
local macro_rules | `(tactic| walk_at "call type:list cons nil") => `(tactic| ((refine' list_copyK (by k_asm) (by k_asm) (by exact News.isList (by k_asm) (by assumption)) ?_ (by ((rename IntsAre _ _ => hI9); have hl9 := IntsAre.length hI9; rw [List.size_toArray, PySem.sizeLine_eq]; omega))); intro D' c' h' F' N' l1; (try k_sweep)))
set_option maxHeartbeats 8000000 in
theorem trans_spec (w : World) (mean : ExcName → Option Value) (mg mb : Str → Option Value) (D : Addr) (vs : List Value) (ns : List Int) (c : Nat) (news : List (Addr × Obj)) (hD : (D, listOf vs.toArray c) ∈ news) (hI : IntsAre vs ns) (hl : ns.length = 8) :
    Spec w mean mg mb 2 118 [.ref D] news (fun r n' => ∃ D' vs' c', r = .ref D' ∧ (∀ p ∈ news, p.1 < D') ∧ n' = (D', listOf vs'.toArray c') :: news ∧ IntsAre vs' (tailW 0 ns) ∧ (tailW 0 ns).length = 8) := by
  unfold Spec
  w_top off
  k_fill
  intro dp un gd cn cs fa ccd cl outer A₀ base h₀ L m s Q E B F X N T hk hdp hun hret
  refine wpAny_call ?_
  k_dflt cell_enter
  rename_i g1 L1 h1 FG1 F1 N1 B1 X1 T1
  replace F1 := fr_kst [(Str.ofString "row", Value.ref D)] F1 (by kst_all)
  dsimp only [kstB] at F1
  k_steps
  refine Halt.go ?_
  rename Fr _ _ _ _ => Fo
  rename News _ _ _ (_ :: _) => No
  rename (∀ q ∈ news, q.1 < _) => l1
  have hD1 := ne_of_lts l1
  rename (_ < _ ∧ AllLt _ news) => l2
  refine tuple_cut (σ := List Value × List Int) (vs := [.int 1 _, .int 2 _, .int 4 _]) (fun c => (_, listOf c.1.toArray _) :: news) (fun c => [(Str.ofString "row", .ref _)])
    (fun i c => IntsAre c.1 c.2 ∧ c.2.length = 8 ∧ tailW 0 ns = tailW i c.2) (vs, ns) rfl Fo No (fun _ h9 => h9) (ne_of_lts2 l2 _) (by kst_all) (by intro c; rfl) ⟨hI, hl, rfl⟩ ?_ ?_
  · clear Fo No hD hI hl l2
    rintro i v ⟨vs1, ns1⟩ u h tk own hi hv ⟨hI, hl, hT⟩ hoff F2 N2
    dsimp only at hI hl hT
    obtain ⟨b, tb, rfl, hb, hrun⟩ := tail_turn hi hv
    rw [hrun] at hT
    clear hrun hv
    dsimp only [kstB] at F2
    dsimp only at N2
    simp only [List.cons_append] at N2
    have hne := own_ne hD1 hoff
    clear hoff
    have hb' : (b : Int) = 1 ∨ (b : Int) = 2 ∨ (b : Int) = 4 := by omega
    k_steps
    refine Halt.go ?_
    rename IsRange _ _ _ _ _ _ _ _ => rgX
    rename News _ _ _ (_ :: _) => No
    rename Fr _ _ _ _ => Fo
    refine range_cut (σ := List Value × List Int) (fun c => (_, listOf c.1.toArray _) :: (news ++ own)) (fun c => [(Str.ofString "row", .ref _), (Str.ofString "bit", .int b tb)])
      (fun j c => IntsAre c.1 c.2 ∧ c.2.length = 8 ∧ tailW 0 ns = tailW (i + 1) (runW b (8 - j) j c.2)) (n := 8) (vs1, ns1) rfl rgX (by decide) (by decide) Fo No (fun _ h9 => h9) (by kst_all) (by intro c; rfl) ⟨hI, hl, hT⟩ ?_ ?_
    · clear Fo No rgX hI hl hT
      rintro j ⟨vs2, ns2⟩ u h tk t own' hj ⟨hI, hl, hT⟩ hoff' F2 N2
      dsimp only at hI hl hT
      dsimp only [kstB] at F2
      simp only [Int.zero_add] at F2
      dsimp only at N2
      simp only [List.cons_append] at N2
      have hne' := own_ne hne hoff'
      clear hoff' hne
      obtain ⟨e1, e2, e3⟩ := bit_facts j hj b hb
      have hy0 : 0 ≤ Builtin.bitOr (j : Int) (b : Int) := by omega
      have hy1 : Builtin.bitOr (j : Int) (b : Int) < 8 := by omega
      clear e1 e2 e3
      k_steps
      · rename News _ _ _ (_ :: _) => nW
        refine' cut_on (?v1a, ?v2a) ?Fa ?Na ?hka ?hpa
        case Na => (have nX := cb_drop nW (fun _ h9 => List.mem_cons_of_mem _ h9); exact nX)
        case Fa => k_asm
        case hka => kst_all
        case hpa => (have hq := run_and hj hb hT (by assumption); exact ⟨by with_reducible assumption, ((List.length_set ..).trans (List.length_set ..)).trans hl, hq⟩)
      · refine' cut_on (?v1b, ns2) ?Fb ?Nb ?hkb ?hpb
        case Nb => k_asm
        case Fb => k_asm
        case hkb => kst_all
        case hpb => (have hq := run_nand hj hb hT (by assumption); exact ⟨hI, hl, hq⟩)
    · clear Fo No rgX hI hl hT
      rintro ⟨vs2, ns2⟩ u h tk ⟨hI, hl, hT⟩ F2 N2
      dsimp only at hI hl hT
      dsimp only [kstB] at F2
      dsimp only at N2
      k_steps
      refine' cut_on (?v1c, ns2) ?Fc ?Nc ?hkc ?hpc
      case Nc => k_asm
      case Fc => k_asm
      case hkc => kst_all
      case hpc => exact ⟨hI, hl, hT⟩
  · clear Fo No hD hI hl l2
    rintro ⟨vs1, ns1⟩ u h tk ⟨hI, hl, hT⟩ F2 N2
    dsimp only at hI hl hT
    dsimp only [kstB] at F2
    dsimp only at N2
    k_steps
    have hT' : tailW 0 ns = ns1 := hT
    refine hret _ _ _ _ (by k_asm) (by k_asm) ?_
    refine ⟨_, vs1, _, rfl, l1, rfl, ?_, ?_⟩
    · rw [hT']; exact hI
    · rw [hT']; exact hl
end

end

/-! text: pretty -/
section
section
local macro_rules | `(tactic| walk_at "call builtin:str.join") => `(tactic| ((refine' join_T (by k_asm) (by exact List.mem_cons_self ..) (by assumption) (by assumption) (by assumption) (by walk_at "toks") (by assumption) ?_); intro _ _ _ _))
local macro_rules | `(tactic| walk_at $s:str) => if ("exec For;exec For Name Call cons cons;exec If BinOp cons nil".splitOn ";").contains s.getString then `(tactic| refine Halt.mk ?_) else Lean.Macro.throwUnsupported
local macro_rules | `(tactic| walk_at "call builtin:hex") => `(tactic| refine P.hex_of_int ?_ (hex_fits (by assumption)))
local macro_rules | `(tactic| walk_at "call builtin:dict.get") => `(tactic| ((refine' flag_get (by k_asm) (by k_asm) (by assumption) (by rfl) (by exact hex_same (by assumption)) ?_)))
local macro_rules | `(tactic| walk_at "call builtin:list.append") => `(tactic| (k_dflt (refine' append_K (by k_asm) (by k_asm) (by k_upd) ?_ (by (rw [List.size_toArray, strValues, List.length_map, sizeLine_eq]; omega)); k_whole); intro h' F' N'; (try k_sweep)))
set_option maxHeartbeats 8000000 in
theorem pretty_spec (w : World) (mean : ExcName → Option Value) (mg mb : Str → Option Value) (T : Nat) (z : Nat) (t0 : Tok) (news : List (Addr × Obj)) (hT1 : 1 ≤ T) (hz : z < 2 ^ 32) :
    SpecT w mean mg mb 0 T 36 [.int (z : Int) t0] news (fun r n' => n' = news ∧ ∃ t, r = .str (Txt.join ", " (toldWords z)) t ∧ OkTok T t) := by
  unfold SpecT
  w_top off
  k_fill
  intro dp un gd cn cs fa ccd cl outer A₀ base h₀ L m s Q E B F X N Tp hk hdp hun hT hret
  refine wpAny_call ?_
  k_dflt cell_enter
  rename_i g1 L1 h1 FG1 F1 N1 B1 X1 T1
  replace F1 := fr_kst [(Str.ofString "flags", Value.int (z : Int) t0)] F1 (by kst_all)
  dsimp only [kstB] at F1
  k_steps
  rename Fr _ _ _ _ => Fo
  rename News _ _ _ (_ :: _) => No
  rename (∀ p ∈ news, p.1 < _) => l1
  have hD1 := ne_of_lts l1
  rename Addr => D9
  refine Halt.go (cut_atT (σ := List (Str × Tok) × Nat) (g := g1) (L := L1) T ?kT0 (fun c => (D9, listOf (strValues c.1).toArray c.2) :: news) (fun c => [(Str.ofString "names", .ref D9)])
    (fun c => c.1.map (·.1) = toldWords z ∧ (∀ p ∈ c.1, OkTok T p.2)) (For_CT T ?kT ?_) ?kEnd)
  case kEnd =>
    clear Fo No
    rintro ⟨l, cn⟩ h tk u htk ⟨p1, p2⟩ F2 N2
    dsimp only at p1 p2
    dsimp only [kstB] at F2
    dsimp only at N2
    have hjo := told_joins z
    k_steps
    rename News _ _ _ (_ :: _) => nW
    rename OkTok T _ => hok
    refine hret _ _ _ _ (by assumption) (by k_asm) (cb_drop nW (fun _ h9 => List.mem_cons_of_mem _ h9)) ⟨rfl, _, rfl, hok⟩
  case kT0 => (refine Nat.le_trans hT ?_; repeat (first | exact Nat.le_refl _ | refine Nat.le_trans ?_ (Nat.le_add_right _ _)))
  case kT => (refine Nat.le_trans hT ?_; repeat (first | exact Nat.le_refl _ | refine Nat.le_trans ?_ (Nat.le_add_right _ _)))
  k_steps
  refine Halt.go ?_
  rename (T ≤ _) => hTk
  rename IsRange _ _ _ _ _ _ _ _ => rgX
  rename Fr _ _ _ _ => Fo
  rename News _ _ _ (_ :: _) => No
  refine range_cutT (σ := (Int × Tok) × List (Str × Tok) × Nat) T (fun c => (_, listOf (strValues c.2.1).toArray c.2.2) :: news) (fun c => [(Str.ofString "names", .ref _), (Str.ofString "flags", .int c.1.1 c.1.2)])
    (fun i c => c.1.1 = ((z / 2 ^ i * 2 ^ i : Nat) : Int) ∧ c.2.1.map (·.1) = ((List.range i).filter (z.testBit ·)).map wordN ∧ (∀ p ∈ c.2.1, OkTok T p.2) ∧ (z = 0 ∨ z / 2 ^ i ≠ 0) ∧ c.2.1.length ≤ i) (n := 32) ((_, _), [], _) ?k0 ?k1 ?k2 ?k3 rgX (by decide) (by decide) Fo No (fun _ h9 => h9) (by kst_all) (by intro c; rfl) ?k4 ?k5 ?k6
  case k0 => exact hTk
  case k1 => rfl
  case k2 => rfl
  case k3 => rfl
  case k4 => (dsimp only; refine ⟨by simp, rfl, (fun _ hp => (nomatch hp)), (by by_cases h : z = 0; exact .inl h; exact .inr (by simpa using h)), Nat.le_refl _⟩)
  case k5 =>
    clear Fo No
    rintro i ⟨⟨fl, tf⟩, l, cn⟩ u h tk t own hi htk ⟨p1, p2, p3, p4, p5⟩ hoff F2 N2
    dsimp only at p1 p2 p3 p4 p5
    subst p1
    have hne := own_ne hD1 hoff
    clear hoff
    dsimp only [kstB] at F2
    dsimp only at N2
    simp only [List.cons_append] at N2
    k_steps
    refine Halt.go (wpAny_If ?_)
    rename Fr _ _ _ _ => kF
    simp only [flag_val] at kF
    have h2 : 0 < 2 ^ i := Nat.two_pow_pos i
    cases hb : z.testBit i with
    | true =>
      have e1 := flI_and z i
      rw [if_pos hb] at e1
      have e2 := flI_xor z i hb
      k_steps
      · rename (Builtin.bitXor _ _ ≠ 0) => hx0
        rename News _ _ _ (_ :: _) => nW
        rename Fr _ _ _ _ => fW
        rw [push_strs] at nW
        rw [e2] at fW hx0
        refine' cut_on ((?v1a, ?v2a), ?v3a, ?v4a) ?Fa ?Na ?hka ?hpa
        case Na => exact nW
        case Fa => exact fW
        case hka => kst_all
        case hpa => (dsimp only; exact ⟨rfl, pretty_on hb rfl p2, ok_snoc p3 (okTok_flag hT1 (by walk_at "toks")), .inr (rest_nz hx0), by rw [List.length_append]; exact Nat.succ_le_succ p5⟩)
      · rename (Builtin.bitXor _ _ = 0) => hx0
        rename News _ _ _ (_ :: _) => nW
        rename Fr _ _ _ _ => fW
        rw [push_strs] at nW
        rw [e2] at hx0
        refine' cut_on (?v1b, ?v2b) ?Fb ?Nb ?hkb ?hpb
        case Nb => exact (cb_drop nW (fun p hp => by rcases List.mem_cons.mp hp with rfl | hp; exact List.mem_cons_self ..; exact List.mem_cons_of_mem _ (List.mem_append_left _ hp)))
        case Fb => exact fW
        case hkb => kst_all
        case hpb => (dsimp only; exact ⟨pretty_all hi (bit_nz hb) hb hx0 rfl p2, ok_snoc p3 (okTok_flag hT1 (by walk_at "toks"))⟩)
    | false =>
      have e1 := flI_and z i
      rw [if_neg (by rw [hb]; exact Bool.false_ne_true)] at e1
      k_steps
      refine' cut_on ((?v1c, ?v2c), ?v3c, ?v4c) ?Fc ?Nc ?hkc ?hpc
      case Nc => k_asm
      case Fc => k_asm
      case hkc => kst_all
      case hpc => (dsimp only; exact ⟨by rw [fl_off z i hb], by rw [bits_off z i hb]; exact p2, p3, off_nz hb p4, Nat.le_succ_of_le p5⟩)
  case k6 =>
    clear Fo No
    rintro ⟨⟨fl, tf⟩, l, cn⟩ u h tk htk ⟨p1, p2, p3, p4, p5⟩ F2 N2
    dsimp only at p1 p2 p3 p4 p5
    dsimp only [kstB] at F2
    dsimp only at N2
    have hz0 : z / 2 ^ 32 = 0 := Nat.div_eq_of_lt hz
    have hz1 : z = 0 := p4.resolve_right (fun h9 => h9 hz0)
    subst hz1
    k_steps
    rename News _ _ _ (_ :: _) => nW
    rename Fr _ _ _ _ => fW
    rw [push_strs] at nW
    refine' cut_on (?v1d, ?v2d) ?Fd ?Nd ?hkd ?hpd
    case Nd => exact nW
    case Fd => exact fW
    case hkd => kst_all
    case hpd => (dsimp only; exact ⟨pretty_none p1 p2, ok_snoc p3 (okTok_ge hT1 htk)⟩)
end

end

/-! text: index -/
section
/-! ## indexOf -/
theorem not_told {prog : Program} {w : World} {A : Around} {E : Value → Shared → Prop} {s : Shared} {h₀ : Heap} {L : Addr} {m : Str → Option Value} {t : Tok} {Q : Bool → Shared → Prop} (F : Fr h₀ L s.heap m) (X : (hk.heap_1 w.params).In h₀) (h : Q false s) : wpAny (model prog w) A (sharingNotTold t) Q E s := by
  have e : nsIn (hk.heap_1 w.params) cStatics sharingNotToldKey = some none := by kernel_rfl
  unfold sharingNotTold
  exact wpAny_bind (looks_nsIn X e _ _ _ _ F.keep (wpAny_pure h))
theorem is_str_T {prog : Program} {w : World} {A : Around} {E : Value → Shared → Prop} {s : Shared} {h₀ : Heap} {L : Addr} {m : Str → Option Value} {Q : Value → Shared → Prop} {a b : Str} {t u : Tok}
    (F : Fr h₀ L s.heap m) (X : (hk.heap_1 w.params).In h₀) (ht : 1 ≤ t) (hu : 1 ≤ u) (htu : t = u → a = b) (h : ∀ r : Bool, (r = true → a = b) → Q (.bool r) s) :
    wpAny (model prog w) A (compareOp .Is (.str a t) (.str b u)) Q E s := by
  show wpAny _ A (do return .bool (← isSame (.str a t) (.str b u))) Q E s
  refine wpAny_bind ?_
  show wpAny _ A (isSame.created (a == b) t u) _ E s
  unfold isSame.created
  have h0 : (t == 0 || u == 0) = false := by
    rw [Bool.or_eq_false_iff]
    exact ⟨beq_eq_false_iff_ne.mpr (Nat.ne_of_gt ht), beq_eq_false_iff_ne.mpr (Nat.ne_of_gt hu)⟩
  refine wpAny_ite ?_
  rw [if_neg (by rw [h0]; exact Bool.false_ne_true)]
  refine wpAny_ite ?_
  by_cases e : t = u
  · rw [if_pos (by simpa using e)]
    exact wpAny_pure (wpAny_pure (h true fun _ => htu e))
  · rw [if_neg (by simpa using e)]
    refine wpAny_ite ?_
    by_cases e2 : a = b
    · rw [if_neg (by simpa using e2)]
      refine wpAny_bind (not_told F X ?_)
      first | rw [if_neg Bool.false_ne_true] | simp only [Bool.false_eq_true, if_false]
      refine wpAny_bind (not_told F X ?_)
      first | rw [if_neg Bool.false_ne_true] | simp only [Bool.false_eq_true, if_false]
      exact wpAny_bind (wpAny_rule (wpAny_bind (wpAny_askSetting (wpAny_pure (wpAny_pure (h _ fun _ => e2))))))
    · rw [if_pos (by simpa using e2)]
      exact wpAny_pure (wpAny_pure (h false fun q => absurd q Bool.false_ne_true))
theorem idx_here {l : List Str} {i j : Nat} {x y : Str} (hmin : ∀ j, j < i → l[j]? ≠ some x) (hj : j ≤ i) (hyj : l[j]? = some y) (h : y = x) : (j : Int) = (i : Int) := by
  rcases Nat.lt_or_eq_of_le hj with h1 | h1
  · exact absurd (h ▸ hyj) (hmin j h1)
  · rw [h1]
theorem idx_next {l : List Str} {i j : Nat} {x y : Str} (hi : l[i]? = some x) (hj : j ≤ i) (hyj : l[j]? = some y) (h : y ≠ x) : j + 1 ≤ i := by
  rcases Nat.lt_or_eq_of_le hj with h1 | h1
  · exact h1
  · subst h1; rw [hi] at hyj; cases hyj; exact absurd rfl h
section
local macro_rules | `(tactic| walk_at $s:str) => if ("exec For;exec For Tuple Call cons cons;call type:enumerate".splitOn ";").contains s.getString then `(tactic| refine Halt.mk ?_) else Lean.Macro.throwUnsupported
local macro_rules | `(tactic| walk_at "compareOp Is str str") => `(tactic| ((refine' is_str_T (by k_asm) (by k_asm) (by assumption) (by assumption) (by assumption) ?_); intro r9 hr9))
set_option maxHeartbeats 8000000 in
theorem index_spec (w : World) (mean : ExcName → Option Value) (mg mb : Str → Option Value) (ax : Addr) (l : List (Str × Tok)) (c : Nat) (x : Str) (tx : Tok) (i : Nat) (news : List (Addr × Obj)) (hD : (ax, listOf (strValues l).toArray c) ∈ news)
    (hi : (l.map (·.1))[i]? = some x) (hmin : ∀ j, j < i → (l.map (·.1))[j]? ≠ some x) (htx : 1 ≤ tx) (htl : ∀ p ∈ l, 1 ≤ p.2 ∧ (p.2 = tx → p.1 = x)) :
    Spec w mean mg mb 1 99 [.ref ax, .str x tx] news (fun r n' => n' = news ∧ ∃ t, r = .int (i : Int) t) := by
  unfold Spec
  w_top off
  k_fill
  intro dp un gd cn cs fa ccd cl outer A₀ base h₀ L m s Q E B F X N T hk hdp hun hret
  refine wpAny_call ?_
  k_dflt cell_enter
  rename_i g1 L1 h1 FG1 F1 N1 B1 X1 T1
  replace F1 := fr_kst [(Str.ofString "a", Value.ref ax), (Str.ofString "b", Value.str x tx)] F1 (by kst_all)
  dsimp only [kstB] at F1
  k_steps
  refine Halt.go (For_P ?_)
  k_steps
  refine Halt.go (enum_cut (news₀ := news) [(Str.ofString "a", .ref ax), (Str.ofString "b", .str x tx)] (fun j => j ≤ i) rfl rfl rfl rfl (by k_asm) (by k_asm) hD (by kst_all) (Nat.zero_le _) ?_ ?_)
  · rintro j v u h tk t own hv hj F2 N2
    dsimp only [kstB] at F2
    obtain ⟨p, hp1, rfl⟩ : ∃ p, l[j]? = some p ∧ v = .str p.1 p.2 := by
      unfold strValues at hv
      rw [List.getElem?_map] at hv
      cases e : l[j]? with
      | none => rw [e] at hv; cases hv
      | some p => rw [e] at hv; exact ⟨p, rfl, by cases hv; rfl⟩
    obtain ⟨y, ty⟩ := p
    have hm : (y, ty) ∈ l := List.mem_of_getElem? hp1
    have hty := (htl _ hm).1
    have htx2 := (htl _ hm).2
    have hyj : (l.map (·.1))[j]? = some y := by rw [List.getElem?_map, hp1]; rfl
    clear hv hp1 hm
    dsimp only at hty htx2 F2
    k_steps
    · rename (_ = true → y = x) => h9
      rename (_ = true) => h8
      rename News _ _ _ (_ ++ _) => kN
      exact hret _ _ _ _ (by k_asm) (cb_drop kN (fun _ h7 => List.mem_append_left _ h7)) ⟨rfl, ktn_int (idx_here hmin hj hyj (h9 h8))⟩
    · rename ((y == x) = true) => h8
      rename News _ _ _ (_ ++ _) => kN
      exact hret _ _ _ _ (by k_asm) (cb_drop kN (fun _ h7 => List.mem_append_left _ h7)) ⟨rfl, ktn_int (idx_here hmin hj hyj (beq_iff_eq.mp h8))⟩
    · rename ((y == x) = false) => h8
      exact cut_on () (by k_asm) (by k_asm) (by kst_all) (idx_next hi hj hyj (beq_eq_false_iff_ne.mp h8))
  · rintro u h tk hj F2 N2
    exfalso
    have := (List.getElem?_eq_some_iff.mp hi).1
    rw [List.length_map] at this
    unfold strValues at hj
    rw [List.length_map] at hj
    exact absurd hj (Nat.not_le.mpr this)
end

end

/-! text: spect -/
section
/-! ## contracts that keep count of the tokens -/
theorem Spec.toT {w : World} {mean : ExcName → Option Value} {mg mb : Str → Option Value} {D T : Nat} {f : Addr} {vs : List Value} {news : List (Addr × Obj)} {Post : Value → List (Addr × Obj) → Prop} (h : Spec w mean mg mb D f vs news Post) : SpecT w mean mg mb D T f vs news Post := by
  intro dp un gd cn cs a ccd cl outer A₀ base h₀ L m s Q E B F X N Tp hk hdp hun hT hret
  exact wpAny_with_toks hT (h dp un gd cn cs a ccd cl outer A₀ base h₀ L m s (fun v s' => T ≤ s'.toks → Q v s') (fun e s' => T ≤ s'.toks → E e s') B F X N Tp hk hdp hun fun r h' tk' n' F' N' hp htk => hret r h' tk' n' htk F' N' hp)
theorem SpecT.mono {w : World} {mean : ExcName → Option Value} {mg mb : Str → Option Value} {D T : Nat} {f : Addr} {vs : List Value} {news : List (Addr × Obj)} {Post Post' : Value → List (Addr × Obj) → Prop} (h : SpecT w mean mg mb D T f vs news Post) (hp : ∀ r n, Post r n → Post' r n) : SpecT w mean mg mb D T f vs news Post' := by
  intro dp un gd cn cs a ccd cl outer A₀ base h₀ L m s Q E B F X N Tp hk hdp hun hT hret
  exact h dp un gd cn cs a ccd cl outer A₀ base h₀ L m s Q E B F X N Tp hk hdp hun hT fun r h' tk' n' htk F' N' q => hret r h' tk' n' htk F' N' (hp r n' q)
theorem lsh_T (w : World) (mean : ExcName → Option Value) (mg mb : Str → Option Value) (T i sh : Nat) (t1 t2 : Tok) (news : List (Addr × Obj)) (hi : i < 8) (hs : sh < 30) {l : List (Str × Tok)} (hw9 : WordsOk T l) :
    SpecT w mean mg mb 1 T 57 [.int (0 + (i : Int)) t1, .int (sh : Int) t2] news (fun r n' => n' = news ∧ ∃ t, r = .int ((i * 2 ^ sh : Nat) : Int) t) := by
  refine (Spec.toT (lshift_spec w mean mg mb (0 + (i : Int)) (sh : Int) t1 t2 news (by omega) (by have := bits3 ⟨i, hi⟩; dsimp only at this; omega))).mono ?_
  rintro r n ⟨h1, t, rfl⟩
  refine ⟨h1, t, ?_⟩
  congr 1
  rw [Int.zero_add, Int.toNat_natCast]
  simp

end

/-! text: cutk texts -/
section
/-! ## cuts that tell of the number of tokens -/
noncomputable def CutK {σ : Type} (g : Heap) (L : Addr) (s : Shared) (Led : σ → List (Addr × Obj)) (ps : σ → List (Str × Value)) (P : Nat → σ → Prop) (s' : Shared) : Prop :=
  ∃ (c : σ) (h' : Heap) (tk : Nat) (m' : Str → Option Value) (news' : List (Addr × Obj)), s' = { s with heap := h', toks := tk } ∧ Fr g L h' m' ∧ News g L h' news' ∧ (∀ p ∈ Led c, p ∈ news') ∧ (EnvHas m' (ps c)) ∧ P tk c
theorem cut_onK {σ : Type} {g : Heap} {L : Addr} {s : Shared} {Led : σ → List (Addr × Obj)} {ps : σ → List (Str × Value)} {P : Nat → σ → Prop} {h' : Heap} {tk : Nat} {m' : Str → Option Value} {news' : List (Addr × Obj)} (c : σ)
    (F : Fr g L h' m') (N : News g L h' news') (hn : ∀ p ∈ Led c, p ∈ news') (hk : EnvHas m' (ps c)) (hp : P tk c) : CutK g L s Led ps P { s with heap := h', toks := tk } :=
  ⟨c, h', tk, m', news', rfl, F, N, hn, hk, hp⟩
theorem cut_atK {M : Model} {A : Around} {E : Value → Shared → Prop} {t : Sem Flow} {Q : Flow → Shared → Prop} {s : Shared} {σ : Type} {g : Heap} {L : Addr} (Led : σ → List (Addr × Obj)) (ps : σ → List (Str × Value)) (P : Nat → σ → Prop)
    (h1 : wpAny M A t (CutPost Q (CutK g L s Led ps P)) E s) (h2 : ∀ c h' tk u, P tk c → Fr g L h' (kstB u (ps c)) → News g L h' (Led c) → Q .next { s with heap := h', toks := tk }) : wpAny M A t Q E s := by
  refine wpAny_mono h1 (fun f s' q => ?_) fun _ _ e => e
  cases f with
  | next =>
    obtain ⟨c, h', tk, m', news', rfl, F, N, hn, hk, hp⟩ := q
    exact h2 c h' tk m' hp (fr_kst _ F hk) fun p hp' => N p (hn p hp')
  | brk => exact q
  | cont => exact q
  | ret v => exact q

section
local macro_rules | `(tactic| k_updF) => `(tactic| (refine' UpdF.head (by with_reducible assumption)))
local macro_rules | `(tactic| walk_at "eval Name") => `(tactic| (k_dflt (refine' nameX_C ?k1 ?hc ?hm ?hd ?_ ?hk ?hx ?hb; (case hx => kernel_rfl!); (case hk => exact rfl); (case hb => kernel_rfl!); (case k1 => k_asm); (case hc => exact rfl); (case hm => k_mem); (case hd => with_reducible assumption); k_whole)))
local macro_rules | `(tactic| walk_at $s:str) => if ("execs cons Assign cons;subscriptTail Tuple;execs cons AugAssign cons;binaryOp Add str str;eval ListComp;exec Assign cons ListComp;CompSrc;Exists;execs cons If cons;execs cons For cons;call ref cons nil;exec For;exec For Name Subscript cons nil;subscriptTail Name Slice ref ref;call type:list cons nil;call builtin:str.split;subscriptTail Name Name ref int;setItem ref int str;call builtin:str.join;call builtin:list.append;binaryOp Add ref ref".splitOn ";").contains s.getString then `(tactic| refine Halt.mk ?_) else Lean.Macro.throwUnsupported
local macro_rules | `(tactic| walk_at "binaryOp Add str str") => `(tactic| ((with_reducible show wpAny _ _ (binaryOp _ (Value.str (Str.ofString "0x") _) (Value.str (Txt.item _ _) _)) _ _ _); (refine add_T 245 (by walk_at "toks") (word_add (by with_reducible assumption)) ?_); intro _ _ _))
local macro_rules | `(tactic| walk_at "binaryOp Mult str int") => `(tactic| ((refine mulstr_T 245 (by walk_at "toks") (word_mul (by with_reducible assumption)) ?_); intro _ _ _))
local macro_rules | `(tactic| walk_at "inplaceOp Add ref ref") => `(tactic| (k_dflt (refine' iadd_list_lists (by k_asm) (by k_asm) (by k_mem) (by exact rfl) (by exact Nat.succ_ne_zero _) (by k_upd) (by exact Nat.le_of_ble_eq_true rfl) ?_; k_whole); intro h' F' N'; (try k_sweep)))
local macro_rules | `(tactic| walk_at "eval Name") => `(tactic| walk_at "compN")
local macro_rules | `(tactic| walk_at "call builtin:str.upper") => `(tactic| (refine SCL.upper (x := letS _ _) (by exact Nat.le_of_ble_eq_true rfl) ?_; intro _))
local macro_rules | `(tactic| walk_at "subscriptTail Name Constant ref int") => `(tactic| (k_dflt (refine' lst_item0 (by k_asm) (by k_mem) (by decide) (by decide) (by exact rfl) ?_ (by with_unfolding_all rfl); k_whole)))
local macro_rules | `(tactic| walk_at "execs nil") => `(tactic| with_reducible refine wpAny_execs_nil ?_)
local macro_rules | `(tactic| o_head ($t, 1)) => `(tactic| (k_dflt (refine' ($t) _ _ _ _ _ _ _ _ _ _ _ _ _ _ _ _ _ (by k_asm) (by k_asm) (by k_asm) (by k_asm) (by k_asm) (by exact rfl) (by ktr_room) (by ktr_units) (by walk_at "toks") ?_); intro r9 h9 tk9 n9 ht9 F9 N9 hp9))
local macro_rules | `(tactic| walk_at "call ref cons nil") => `(tactic| (o_head (pretty_spec _ _ _ _ _ _ _ _ (by exact Nat.le_trans (by decide) (wordsOk_ge (by with_reducible assumption))) (by exact told_lt32 (by with_reducible assumption) (shift_lt _)), 1); rename_i hp9; obtain ⟨e9, t9, e9', hok9⟩ := hp9; subst e9 e9'; (try dsimp only); (try k_sweep)))
local macro_rules | `(tactic| walk_at "call ref cons nil") => `(tactic| (o_head (lsh_T _ _ _ _ _ _ _ _ _ _ (by with_reducible assumption) (by exact shift_lt _) (by with_reducible assumption), 1); rename_i hp9; obtain ⟨e9, t9, e9'⟩ := hp9; subst e9 e9'; (try dsimp only); (try k_sweep)))
local macro_rules | `(tactic| walk_at "callWith builtin:list.append cons nil") => `(tactic| ((with_reducible refine callWith_method1 ?_ (by exact rfl) (by exact rfl))))
set_option maxHeartbeats 8000000 in
theorem texts_spec (w : World) (mean : ExcName → Option Value) (mg mb : Str → Option Value) (z : Int) (t0 : Tok) (news : List (Addr × Obj)) :
    SpecT w mean mg mb 2 245 111 [.int z t0] news (fun r n' => ∃ D' l c, r = .ref D' ∧ n' = (D', listOf (strValues l).toArray c) :: news ∧ l.map (·.1) = (List.range 8).map (textC z) ∧ (∀ p ∈ news, p.1 < D')) := by
  unfold SpecT
  w_top off
  k_fill
  intro dp un gd cn cs fa ccd cl outer A₀ base h₀ L m s Q E B F X N Tp hk hdp hun hT hret
  refine wpAny_call ?_
  k_dflt (refine' enter_cellsT 245 hT ?k1 ?k2 ?k3 ?k4 ?k5 ?kA ?kF ?kK ?k6 ?k7 ?k8 ?k9 ?kB ?kD ?_ ?c2 ?c3 ?c4; (case kA => exact rfl); (case kF => exact rfl); (case kK => assumption); (case k1 => k_asm); (case k2 => k_asm); (case k3 => k_asm); (case k4 => k_asm); (case k5 => k_asm); (case k6 => k_is); (case k7 => k_is); (case k8 => ktr_room); (case k9 => exact BindsTo.of_eq rfl); (case kB => exact rfl); (case kD => decide +kernel); (case c2 => exact rfl); (case c3 => exact rfl); (case c4 => exact rfl); k_whole)
  intro g1 L1 h1 tk1 cells1 htk1 FG1 F1 N1 Y1 B1 X1 T1 l1 l2
  k_cells Y1
  rename_i oA oB dA dB
  have hneC : ∀ p ∈ (L1 + 1, oB) :: news, p.1 ≠ L1 + 1 + 1 := List.forall_mem_cons.mpr ⟨Nat.ne_of_lt (Nat.lt_succ_self _), fun p hp => Nat.ne_of_lt (Nat.lt_succ_of_lt (Nat.lt_succ_of_lt (l1 p hp)))⟩
  replace dA : oA.data = .cell none := dA
  replace dB : oB.data = .cell (some (.int z t0)) := dB
  (try simp only [List.cons_append, List.nil_append] at N1)
  (try dsimp only)
  (try k_lift B1)
  (try k_fold)
  refine wpAny_execs_cons ?_
  k_steps
  rename (_ ∧ _ ∧ AllLt _ news) => lW
  rename Addr => W
  have hneW : ∀ p ∈ (L1 + 1 + 1, oA) :: (L1 + 1, oB) :: news, p.1 ≠ W := ne_of_lts (kst_ltOf lW)
  walk_at "go_cons"
  k_steps
  walk_at "go_cons"
  refine cut_atK (σ := List (Str × Tok) × Nat) (g := g1) (L := L1) (fun c => (W, listOf (strValues c.1).toArray c.2) :: (L1 + 1 + 1, oA) :: (L1 + 1, oB) :: news) (fun c => [(Str.ofString "words", .ref W)])
    (fun T c => WordsOk T c.1) ?kWords ?kRest
  case kWords =>
    k_steps
    refine Halt.go (ListComp_TR (by k_asm) (tk1 + 1 + 1 + 1 + 1 + 1 + 1 + 1 + 1 + 1 + 1 + 1) (by walk_at "toks") rfl (by decide) rfl (by decide) rfl ?_)
    walk_at "steps0"
    rename (_ ≤ Shared.toks _) => hTr
    rename IsRange _ _ _ _ _ _ _ _ => rgX
    refine ⟨_, _, _, _, _, _, 22, _, _, WordAt, rfl, rfl, by k_asm, by k_asm, rgX, by decide, by decide, by decide, hTr, wordAt_mono, ?kTurn, ?kFin⟩
    case kTurn =>
      intro i t I oI C oC D m₂ h tk ys E' hi htk hC hm F N off hne
      replace htk : 245 ≤ tk := Nat.le_trans (by walk_at "toks") htk
      k_steps
      refine Halt.go (word_end hi ?_)
      refine ⟨_, _, rfl, by k_asm, by k_asm, _, rfl, by walk_at "toks", Nat.lt_succ_self _⟩
    case kFin =>
      intro D h tk ys htk hl hys F N lt
      k_lt lt
      obtain ⟨lw, hw1, hw2⟩ := words_of htk1 htk hl hys
      k_dflt (refine' iadd_list_lists F N (List.mem_cons_self ..) hw1 ?kh1 ?kh2 ?kh3 ?_)
      case kh1 => (rw [List.toList_toArray, hl]; decide)
      case kh2 => exact Upd.tail (by k_ne) (Upd.tail (by k_ne) (Upd.head hneW))
      case kh3 => (simp [hl])
      clear F N
      intro h' F N
      k_steps
      refine' cut_onK (lw, 0 + 1 + 1) ?Fa ?Na ?hna ?hka ?hpa
      case Fa => k_asm
      case Na => k_asm
      case hna => (intro p hp; exact List.mem_cons_of_mem _ (List.mem_cons_of_mem _ hp))
      case hka => kst_all
      case hpa => exact wordsOk_mono (Nat.le_succ _) hw2
  case kRest =>
    rintro ⟨lw, cw⟩ h T1 u hw F2 N2
    dsimp only at hw
    dsimp only [kstB] at F2
    dsimp only at N2
    try dsimp only
    k_steps
    walk_at "go_cons"
    k_steps
    refine Halt.go ?_
    k_dflt (refine' step_item ?k1 ?k2 ?_ ?k3; (case k1 => k_asm); (case k2 => k_mem); (case k3 => with_unfolding_all rfl))
    intro ts
    k_steps
    rename Obj => oC
    rename (_ = Data.cell (some (Value.int (stepN _) _))) => dC
    refine Halt.go ?_
    with_reducible refine wpAny_execs_cons ?_
    refine cut_atT (σ := Addr × (Nat → Tok)) (g := g1) (L := L1) T1 (by walk_at "toks") (fun c => (c.1, listOf (List.toArray [.str (letS z 0) (c.2 0), .str (letS z 1) (c.2 1), .str (letS z 2) (c.2 2), .str (letS z 3) (c.2 3), .str (letS z 4) (c.2 4), .str (letS z 5) (c.2 5)]) 6) :: (W, listOf (strValues lw).toArray cw) :: (L1 + 1 + 1, oC) :: (L1 + 1, oB) :: news)
      (fun c => [(Str.ofString "words", .ref W), (Str.ofString "letters", .ref c.1)]) (fun _ => True) ?kLet ?kAfter
    case kLet =>
      k_steps
      refine Halt.go ?_
      k_dflt (refine LCg.Assign_ListComp_U (F₀ := by k_asm) (by rfl) (by with_unfolding_all rfl) (by with_unfolding_all rfl) (by decide) (by rfl) (by decide) (by rfl) (by rfl) (by rfl) ?_)
      k_steps
      refine Halt.go ?_
      rename IsRange _ _ _ _ _ _ _ _ => rgX
      refine LCg.CompSrc.range (by rfl) (by k_asm) (by k_asm) rgX (by decide) (n := 6) (by decide) (by decide) ?_
      intro g'
      refine rest_of (Pv := fun i y _ => LetAt z i y) ?lTurn (fun _ _ _ h => h) ?lFin 6 0 [] rfl rfl (fun _ _ h => by simp at h)
      case lTurn =>
        intro i t I oI C oC D m₂ h tk ys E' hi htk hC hm F N off hne
        have hs1 := stepN_le (idxN z)
        k_steps
        refine Halt.go ⟨_, _, rfl, by k_asm, by k_asm, let_at⟩
      case lFin =>
        intro ys hl hys D h tk F N off
        obtain ⟨ts, rfl⟩ := six_letters hl hys
        k_steps
        refine' cut_in (_, ts) ?Fa ?Na ?hna ?hka trivial
        case Fa => k_asm
        case Na => k_asm
        case hna => (intro p hp; rcases List.mem_cons.mp hp with rfl | hp; exact List.mem_cons_self ..; exact List.mem_cons_of_mem _ (List.mem_cons_of_mem _ hp))
        case hka => kst_all
    case kAfter =>
      rintro ⟨LT, ts⟩ h tk u htk _ F2 N2
      dsimp only [kstB] at F2
      dsimp only at N2
      try dsimp only
      k_steps
      walk_at "go_cons"
      k_steps
      walk_at "go_cons"
      k_steps
      refine Halt.go ?_
      with_reducible refine wpAny_execs_cons ?_
      refine cut_atT (σ := (Addr × Addr) × (List (Str × Tok) × Nat) × (List (Str × Tok) × Nat)) (g := g1) (L := L1) T1 (by walk_at "toks") (fun c => (c.1.1, listOf (strValues c.2.1.1).toArray c.2.1.2) :: (c.1.2, listOf (strValues c.2.2.1).toArray c.2.2.2) :: (W, listOf (strValues lw).toArray cw) :: (L1 + 1, oB) :: news)
        (fun c => [(Str.ofString "words", .ref W), (Str.ofString "bare", .ref c.1.1), (Str.ofString "marked", .ref c.1.2)]) (fun c => c.2.1.1.map (·.1) = bareS z ∧ c.2.2.1.map (·.1) = markS z) ?kIf ?kAfter2
      case kIf =>
        refine wpAny_If ?_
        k_steps
        · walk_at "go_cons"
          k_steps
          rename (Int.fmod _ _ = 1) => hodd
          replace hodd := odd_of hodd
          refine' cut_in ((?a1p, ?a2p), ([(_, ?t1p), (_, ?t2p), (_, ?t3p), (_, ?t4p)], ?c1p), ([(_, ?t5p), (_, ?t6p), (_, ?t7p), (_, ?t8p)], ?c2p)) ?Fap ?Nap ?hnap ?hkap ?hpap
          case Fap => k_asm
          case Nap => k_asm
          case hkap => kst_all
          case hnap =>
            (refine List.forall_mem_cons.mpr ⟨by k_dflt k_mem, List.forall_mem_cons.mpr ⟨by k_dflt k_mem, List.forall_mem_cons.mpr ⟨by k_dflt k_mem, List.forall_mem_cons.mpr ⟨by k_dflt k_mem, fun p hp => ?_⟩⟩⟩⟩; repeat (first | exact hp | refine List.mem_cons_of_mem _ ?_))
          case hpap => exact ⟨(bare_odd hodd).symm, (mark_odd hodd).symm⟩
        · rename (Int.fmod _ _ ≠ 1) => hodd
          replace hodd := even_of hodd
          refine' cut_in ((?a1q, ?a2q), ([(_, ?t1q), (_, ?t2q), (_, ?t3q), (_, ?t4q)], ?c1q), ([(_, ?t5q), (_, ?t6q), (_, ?t7q), (_, ?t8q)], ?c2q)) ?Faq ?Naq ?hnaq ?hkaq ?hpaq
          case Faq => k_asm
          case Naq => k_asm
          case hkaq => kst_all
          case hnaq =>
            (refine List.forall_mem_cons.mpr ⟨by k_dflt k_mem, List.forall_mem_cons.mpr ⟨by k_dflt k_mem, List.forall_mem_cons.mpr ⟨by k_dflt k_mem, List.forall_mem_cons.mpr ⟨by k_dflt k_mem, fun p hp => ?_⟩⟩⟩⟩; repeat (first | exact hp | refine List.mem_cons_of_mem _ ?_))
          case hpaq => exact ⟨(bare_even hodd).symm, (mark_even hodd).symm⟩
      case kAfter2 =>
        rintro ⟨⟨BA, MA⟩, ⟨lb, cb⟩, ⟨lm, cm⟩⟩ h tk u htk ⟨q1, q2⟩ F2 N2
        dsimp only at q1 q2
        dsimp only [kstB] at F2
        dsimp only at N2
        try dsimp only
        k_steps
        walk_at "go_cons"
        k_steps
        walk_at "go_cons"
        k_steps
        rename Fr _ _ _ _ => Fx
        simp only [turn_eq, shift_eq] at Fx
        walk_at "go_cons"
        k_steps
        refine Halt.go ?_
        with_reducible refine wpAny_execs_cons ?_
        rename (_ ∧ _) => lT
        rename Addr => TX
        have hTX : ∀ p ∈ (BA, listOf (strValues lb).toArray cb) :: (MA, listOf (strValues lm).toArray cm) :: (W, listOf (strValues lw).toArray cw) :: (L1 + 1, oB) :: news, p.1 ≠ TX := ne_of_lts (kst_ltOf lT)
        have hlb := len_of_map q1 (bare_len z)
        have hlm := len_of_map q2 (mark_len z)
        have hT1 := wordsOk_ge hw
        refine For_CT T1 (by walk_at "toks") ?_
        walk_at "steps0"
        refine Halt.go ?_
        rename (T1 ≤ _) => hTk
        rename IsRange _ _ _ _ _ _ _ _ => rgX
        rename Fr _ _ _ _ => Fo
        rename News _ _ _ (_ :: _) => No
        refine range_cutT (σ := List (Str × Tok) × Nat) T1 (fun c => (TX, listOf (strValues c.1).toArray c.2) :: (BA, listOf (strValues lb).toArray cb) :: (MA, listOf (strValues lm).toArray cm) :: (W, listOf (strValues lw).toArray cw) :: (L1 + 1, oB) :: news)
          (fun c => [(Str.ofString "words", .ref W), (Str.ofString "bare", .ref BA), (Str.ofString "marked", .ref MA), (Str.ofString "turned", .int (turnN z : Int) _), (Str.ofString "shift", .int (shiftN z : Int) _), (Str.ofString "texts", .ref TX)])
          (fun i c => c.1.map (·.1) = (List.range i).map (textC z)) (n := 8) ([], 0) hTk rfl rfl rfl rgX (by decide) (by decide) Fo No (fun _ h9 => h9) (by kst_all) (by intro c; rfl) rfl ?kTurn ?kDone
        case kTurn =>
          clear Fo No rgX hTk
          rintro i ⟨lt, ct⟩ u h tk t own hi htk hp hoff F2 N2
          dsimp only at hp
          have hneTX := own_ne hTX hoff
          clear hoff
          dsimp only [kstB] at F2
          dsimp only at N2
          simp only [List.cons_append] at N2 hneTX
          refine wpAny_execs_cons ?_
          k_steps
          refine Halt.go (list_copyK (by k_asm) (by k_asm) (News.isList (by k_asm) (by k_dflt k_mem)) ?_ (strs_fit (Nat.le_trans (Nat.le_of_eq hlb) (by decide))))
          intro PC cP hP FP NP lPC
          clear F2 N2
          k_steps
          walk_at "go_cons"
          k_steps
          refine Halt.go ?_
          with_reducible refine wpAny_execs_cons ?_
          refine For_CT T1 (by walk_at "toks") ?_
          walk_at "steps0"
          refine Halt.go ?_
          rename (OkTok T1 _) => hokT
          refine split_T (by k_asm) (by k_asm) rfl (told_fit hi (shift_lt z)) (Nat.le_trans (by decide) hT1) (by walk_at "toks") hokT ?_
          intro ls cs h2 tk2 hk2 e2 hok2 F3 N3 lSP hk3
          rw [told_back (told_lt32 hi (shift_lt z)), said_eq hi (shift_lt z)] at e2
          generalize hSP : Array.size (Heap.objs _) = SP at N3 lSP ⊢
          clear hSP
          have hPCr := ne_of_lts lPC
          have hSPr := ne_of_lts lSP
          k_steps
          refine Halt.go ?_
          refine list_cutT (σ := List (Str × Tok) × Nat) (vs := strValues ls) T1 (fun c => (PC, listOf (strValues c.1).toArray c.2) :: (TX, listOf (strValues lt).toArray ct) :: (BA, listOf (strValues lb).toArray cb) :: (MA, listOf (strValues lm).toArray cm) :: (W, listOf (strValues lw).toArray cw) :: (L1 + 1, oB) :: (news ++ own))
            (fun c => [(Str.ofString "words", .ref W), (Str.ofString "bare", .ref BA), (Str.ofString "marked", .ref MA), (Str.ofString "turned", .int (turnN z : Int) _), (Str.ofString "shift", .int (shiftN z : Int) _), (Str.ofString "texts", .ref TX), (Str.ofString "told", .str (Txt.join (Str.ofString ", ") (toldWords (i * 2 ^ shiftN z))) _), (Str.ofString "pieces", .ref PC)])
            (fun j c => c.1.map (·.1) = pieceS z (doneB i j)) (lb, _) hk3 rfl rfl rfl F3 N3 (fun _ h9 => h9) hSPr (by kst_all) (by intro c; rfl) (by rw [done_zero, piece_nil]; exact q1) ?wTurn ?wDone
          case wTurn =>
            clear F3 N3 lSP hSPr hk3 hk2
            rintro j v ⟨lp, cp⟩ u h tk own2 hj htk hv hp2 hoff2 F2 N2
            dsimp only at hp2
            obtain ⟨⟨x, tx⟩, hx1, rfl⟩ := strs_get hv
            have hx2 : (saidW i (shiftN z))[j]? = some x := by rw [← e2, List.getElem?_map, hx1]; rfl
            have htx := hok2 _ (List.mem_of_getElem? hx1)
            have hne := own_ne hPCr hoff2
            clear hoff2 hv hx1
            dsimp only [kstB] at F2
            dsimp only at N2 htx
            simp only [List.cons_append] at N2 hne
            by_cases hi0 : i = 0
            · rw [told_zero hi (shift_lt z) hi0] at F2
              k_steps
              refine' cut_on (lp, cp) ?Fr ?Nr ?hkr ?hpr
              case Nr => k_asm
              case Fr => k_asm
              case hkr => (rw [told_zero hi (shift_lt z) hi0]; kst_all)
              case hpr => (dsimp only; rw [done_none hi0]; exact hp2)
            · have hnz := told_nz' hi (shift_lt z) hi0
              obtain ⟨b, hb, hxb, hdone⟩ := done_step hi0 hx2
              subst hxb
              k_steps
              refine Halt.go ?_
              with_reducible refine For_CT T1 ?ftk ?_ ?fhs
              case ftk => walk_at "toks"
              case fhs => exact folded_sub
              walk_at "steps0"
              refine Halt.go ?_
              k_dflt (refine' kms_slice_lit ?slF ?slN ?slL ?slP ?slQ ?slE ?_ ?slS ?slT ?slZ)
              case slF => k_asm
              case slN => k_asm
              case slL => exact News.isList (by k_asm) (by k_dflt k_mem)
              case slP => exact IsPart.int _ _
              case slQ => exact IsPart.int _ _
              case slE => exact words_slice (wordsOk_len hw) (shift_lt z)
              case slS => with_unfolding_all rfl
              case slT => (intro _; with_unfolding_all rfl)
              case slZ => exact strs_fit (Nat.le_trans (Nat.le_of_eq (wordsOk_len hw)) (by decide))
              intro SL hS FS NS lS
              k_steps
              refine Halt.go ?_
              k_dflt (refine' (Spec.toT (T := T1) (index_spec w mean mg mb SL ((lw.drop (shiftN z)).take 3) 0 (wordN (shiftN z + b)) tx b _ ?ixD (words_at hw (shift_lt z) hb) (fun j hj => words_ne hw (shift_lt z) hb hj) htx.1 (words_tok hw htx))) _ _ _ _ _ _ _ _ _ _ _ _ _ _ _ _ _ ?ix1 ?ix2 ?ix3 ?ix4 ?ix5 ?ixK ?ixd ?ixu ?ixT ?_)
              case ix1 => k_asm
              case ix2 => k_asm
              case ix3 => k_asm
              case ix4 => k_asm
              case ix5 => k_asm
              case ixK => exact rfl
              case ixd => ktr_room
              case ixu => ktr_units
              case ixT => walk_at "toks"
              case ixD => k_dflt k_mem
              intro r9 h9 tk9 n9 ht9 F9 N9 hp9
              obtain ⟨rfl, t9, rfl⟩ := hp9
              try dsimp only
              k_steps
              refine Halt.go ?_
              k_dflt (refine' place_sub (old := (PC, listOf (strValues lp).toArray cp) :: (TX, listOf (strValues lt).toArray ct) :: (BA, listOf (strValues lb).toArray cb) :: (MA, listOf (strValues lm).toArray cm) :: (W, listOf (strValues lw).toArray cw) :: (L1 + 1, oB) :: (news ++ own ++ own2)) ?plN ?plM hb ?pl0 ?pl1 ?pl2 ?pf0 ?pf1 ?pf2 ?_ ?plS)
              case plN => exact N9
              case plM => k_dflt k_mem
              case pl0 => k_dflt k_mem
              case pl1 => k_dflt k_mem
              case pl2 => k_dflt k_mem
              case pf0 => exact ne_of_lts (kst_ltOf (by assumption))
              case pf1 => exact ne_of_lts (kst_ltOf (And.right (by assumption)))
              case pf2 => exact ne_of_lts (kst_ltOf (And.right (And.right (by assumption))))
              case plS => with_unfolding_all rfl
              intro Ab va ca hmA hfA hIA
              have N10 : News g1 L1 h9 ((Ab, listOf va.toArray ca) :: (PC, listOf (strValues lp).toArray cp) :: (TX, listOf (strValues lt).toArray ct) :: (BA, listOf (strValues lb).toArray cb) :: (MA, listOf (strValues lm).toArray cm) :: (W, listOf (strValues lw).toArray cw) :: (L1 + 1, oB) :: (news ++ own ++ own2)) := by
                intro p hp
                rcases List.mem_cons.mp hp with rfl | hp
                · exact N9 _ hmA
                · refine N9 p ?_
                  repeat (first | exact hp | refine List.mem_cons_of_mem _ ?_)
              clear hmA N9 NS FS lS
              k_steps
              refine Halt.go ?_
              refine list_cutT (σ := List (Str × Tok) × Nat) (vs := va) T1 (fun c => (PC, listOf (strValues c.1).toArray c.2) :: (TX, listOf (strValues lt).toArray ct) :: (BA, listOf (strValues lb).toArray cb) :: (MA, listOf (strValues lm).toArray cm) :: (W, listOf (strValues lw).toArray cw) :: (L1 + 1, oB) :: (news ++ own ++ own2))
                (fun c => [(Str.ofString "words", .ref W), (Str.ofString "bare", .ref BA), (Str.ofString "marked", .ref MA), (Str.ofString "turned", .int (turnN z : Int) _), (Str.ofString "shift", .int (shiftN z : Int) _), (Str.ofString "texts", .ref TX), (Str.ofString "told", .str (Txt.join (Str.ofString ", ") (toldWords (i * 2 ^ shiftN z))) _), (Str.ofString "pieces", .ref PC)])
                (fun k c => c.1.map (·.1) = setAll (markS z) ((placesOf b).take k) (pieceS z (doneB i j))) (lp, cp) (by walk_at "toks") rfl rfl rfl F9 N10 (fun _ h9 => h9) hfA (by kst_all) (by intro c; rfl) hp2 ?pTurn ?pDone
              case pTurn =>
                clear F9 N10 hfA
                rintro k v ⟨lq, cq⟩ u h tk own3 hk htk hv hp3 hoff3 F2 N2
                dsimp only at hp3
                obtain ⟨p, tp, hpl, rfl⟩ := place_at hIA hv
                have hp4 := places_lt (List.mem_of_getElem? hpl)
                have hne3 := own_ne hne hoff3
                clear hoff3 hv
                dsimp only [kstB] at F2
                dsimp only at N2
                simp only [List.cons_append] at N2 hne3
                obtain ⟨tm, htm⟩ := strs_at q2 (p := p) (by rw [mark_len]; exact hp4)
                have hlq := len_of_map hp3 ((setAll_len _ _ _).trans (piece_len _ _))
                k_steps
                refine Halt.go ?_
                k_dflt (refine' lst_item ?liN ?liM rfl ?liJ htm ?_ ?liS)
                case liN => k_asm
                case liM => k_dflt k_mem
                case liJ => exact Nat.lt_trans hp4 (by decide)
                case liS => with_unfolding_all rfl
                k_steps
                refine Halt.go ?_
                k_dflt (refine' lst_set ?siF ?siN (Upd.head hne3) rfl ?siJ ?siZ ?_)
                case siF => k_asm
                case siN => k_asm
                case siJ => (unfold strValues; rw [List.length_map, hlq]; exact hp4)
                case siZ => (unfold strValues; rw [List.length_map, hlq]; decide)
                intro h5 F5 N5
                rw [strs_set] at N5
                k_steps
                refine' cut_on (?v1s, cq) ?Fs ?Ns ?hks ?hps
                case Ns => exact N5
                case Fs => exact F5
                case hks => kst_all
                case hps => exact set_next hp3 hpl
              case pDone =>
                rintro ⟨lq, cq⟩ u h tk htk hp3 F2 N2
                dsimp only at hp3
                dsimp only [kstB] at F2
                dsimp only at N2
                k_steps
                refine' cut_on (lq, cq) ?Fd ?Nd ?hkd ?hpd
                case Nd => exact N2
                case Fd => exact F2
                case hkd => kst_all
                case hpd => exact set_done' (n := 0) hdone hb hIA hp3
          case wDone =>
            rintro ⟨lp, cp⟩ u h tk htk hp2 F2 N2
            dsimp only at hp2
            dsimp only [kstB] at F2
            dsimp only at N2
            have hp5 := hp2
            have hlen : (strValues ls).length = (saidW i (shiftN z)).length := by unfold strValues; rw [List.length_map, ← e2, List.length_map]
            rw [hlen, done_all] at hp5
            clear hp2
            have hlp := len_of_map hp5 (piece_len z _)
            k_steps
            refine Halt.go ?_
            k_dflt (refine' kms_slice_lit ?saF ?saN ?saL ?saP ?saQ ?saE ?_ ?saS ?saT ?saZ)
            case saF => k_asm
            case saN => k_asm
            case saL => exact News.isList (by k_asm) (by k_dflt k_mem)
            case saP => exact IsPart.int _ _
            case saQ => exact IsPart.none
            case saE => exact piece_from hlp (turn_lt z)
            case saS => with_unfolding_all rfl
            case saT => (intro _; with_unfolding_all rfl)
            case saZ => exact strs_fit (Nat.le_trans (Nat.le_of_eq hlp) (by decide))
            intro S1 hS1 FS1 NS1 lS1
            clear F2 N2
            k_steps
            refine Halt.go ?_
            k_dflt (refine' kms_slice_lit ?sbF ?sbN ?sbL ?sbP ?sbQ ?sbE ?_ ?sbS ?sbT ?sbZ)
            case sbF => k_asm
            case sbN => k_asm
            case sbL => exact News.isList (by k_asm) (by k_dflt k_mem)
            case sbP => exact IsPart.none
            case sbQ => exact IsPart.int _ _
            case sbE => exact piece_to hlp (turn_lt z)
            case sbS => with_unfolding_all rfl
            case sbT => (intro _; with_unfolding_all rfl)
            case sbZ => exact strs_fit (Nat.le_trans (Nat.le_of_eq hlp) (by decide))
            intro S2 hS2 FS2 NS2 lS2
            clear FS1 NS1
            k_steps
            refine Halt.go ?_
            k_dflt (refine' kmk_add_lit ?scF ?scN ?scA ?scB ?scE ?_ ?scZ)
            case scF => k_asm
            case scN => k_asm
            case scA => exact News.isList (by k_asm) (by k_dflt k_mem)
            case scB => exact News.isList (by k_asm) (by k_dflt k_mem)
            case scE => exact piece_cat
            case scZ => (unfold strValues; rw [List.toList_toArray, List.toList_toArray, List.length_map, List.length_map, List.length_drop, List.length_take, hlp, sizeLine_eq]; omega)
            intro SA hSA FSA NSA lSA
            clear FS2 NS2
            k_steps
            refine Halt.go ?_
            k_dflt (refine' SC.join ?sdL (turned_map hp5) (turned_ok hi) ?_)
            case sdL => exact News.isList (by k_asm) (by k_dflt k_mem)
            intro tj kj
            rw [join_text]
            k_steps
            refine Halt.go ?_
            have NX : News g1 L1 hSA ((TX, listOf (strValues lt).toArray ct) :: (BA, listOf (strValues lb).toArray cb) :: (MA, listOf (strValues lm).toArray cm) :: (W, listOf (strValues lw).toArray cw) :: (L1 + 1, oB) :: (news ++ own)) := by
              intro p hp
              refine NSA p ?_
              repeat (first | exact hp | refine List.mem_cons_of_mem _ ?_)
            clear NSA
            k_dflt (refine' append_K ?apF NX (Upd.head hneTX) ?_ ?apZ)
            case apF => k_asm
            case apZ => (have hlt := len_of_map hp (by rw [List.length_map, List.length_range] : ((List.range i).map (textC z)).length = i); exact strs_fit (by omega))
            intro hAP FAP NAP
            rw [push_strs] at NAP
            clear NX
            k_steps
            refine' cut_on (?v1t, ?v2t) ?Ft ?Nt ?hkt ?hpt
            case Nt => exact NAP
            case Ft => k_asm
            case hkt => kst_all
            case hpt => exact texts_snoc hp rfl
        case kDone =>
          clear Fo No rgX hTk
          rintro ⟨lt, ct⟩ u h tk htk hp F2 N2
          dsimp only at hp
          dsimp only [kstB] at F2
          dsimp only at N2
          k_steps
          rename News _ _ _ (_ :: _) => NZ
          refine hret _ _ _ ((TX, listOf (strValues lt).toArray ct) :: news) (Nat.le_trans hT1 htk) (by k_asm) ?_ ⟨TX, lt, ct, rfl, rfl, hp, kst_ltOf lT.2.2.2.2⟩
          refine cb_drop NZ (fun p hp => ?_)
          rcases List.mem_cons.mp hp with rfl | hp
          · exact List.mem_cons_self ..
          · repeat (first | exact hp | refine List.mem_cons_of_mem _ ?_)
end

end

/-! text: lawspec -/
section
theorem Spec.mono {w : World} {mean : ExcName → Option Value} {mg mb : Str → Option Value} {D : Nat} {f : Addr} {vs : List Value} {news : List (Addr × Obj)} {Post Post' : Value → List (Addr × Obj) → Prop} (h : Spec w mean mg mb D f vs news Post) (hp : ∀ r n, Post r n → Post' r n) : Spec w mean mg mb D f vs news Post' := by
  intro dp un gd cn cs a ccd cl outer A₀ base h₀ L m s Q E B F X N Tp hk hdp hun hret
  exact h dp un gd cn cs a ccd cl outer A₀ base h₀ L m s Q E B F X N Tp hk hdp hun fun r h' tk' n' F' N' q => hret r h' tk' n' F' N' (hp r n' q)
theorem lev_told (w : World) (mean : ExcName → Option Value) (mg mb : Str → Option Value) {z x : Int} {i y p q : Nat} (t1 t2 t3 : Tok) (news : List (Addr × Obj)) (hi : i < 8) (hy : y < 8) (hpq : (p = i ∧ q = y) ∨ (p = y ∧ q = i)) :
    Spec w mean mg mb 2 28 [.str (textC z p) t1, .str (textC z q) t2, .int (((i ^^^ y : Nat) : Int) + (Int.fmod x 3 - 1)) t3] news (fun r n' => n' = news ∧ ∃ t, r = .int ((i ^^^ y : Nat) : Int) t) := by
  have hp : p < 8 := by omega
  have hq : q < 8 := by omega
  refine (lev_spec w mean mg mb (textC z p) (textC z q) (((i ^^^ y : Nat) : Int) + (Int.fmod x 3 - 1)) t1 t2 t3 news (text_len hp) (text_len hq)).mono ?_
  rintro r n ⟨h1, t, rfl⟩
  refine ⟨h1, t, ?_⟩
  congr 1
  rcases hpq with ⟨rfl, rfl⟩ | ⟨rfl, rfl⟩
  · exact told_far hi hy
  · rw [Nat.xor_comm]; exact told_far hy hi

end

/-! text: lawz -/
section
section
local macro_rules | `(tactic| walk_at $s:str) => if ("execs cons Assign cons;execs cons For cons;call ref cons nil;exec For;exec For Name Call cons nil;subscriptTail Name Slice ref ref;eval ListComp;CompSrc;call type:zip;exec Assign cons ListComp;execs cons If cons".splitOn ";").contains s.getString then `(tactic| refine Halt.mk ?_) else Lean.Macro.throwUnsupported
local macro_rules | `(tactic| walk_at "eval Name") => `(tactic| walk_at "compN")
local macro_rules | `(tactic| walk_at "subscriptTail Name Name ref int") => `(tactic| ((with_reducible show wpAny _ _ (subscriptTail (Expr.Name (Str.ofString "texts") _) _ _ _) _ _ _); refine Halt.mk ?_))
local macro_rules | `(tactic| walk_at "call ref cons nil") => `(tactic| o_head [add_spec _ _ _ _ _ _ _ _ _])
local macro_rules | `(tactic| walk_at "call ref cons nil") => `(tactic| o_head [xor_spec _ _ _ _ _ _ _ _ _])
set_option maxRecDepth 100000 in
set_option maxHeartbeats 8000000 in
theorem law_holds : PySem.Challenge.rw_wj0018_01.Holds := hd (by
  w_top off
  k_fill
  intro w s₀ s₁ mg mb G Y fa o pm cd doc dV kV ho hd' hcd hD hmg hg args vals as L hpre hlay hrd hwl hlo
  have ZF := PySem.W.X.z_facts (K := hd.heap_162) (fun _ => rfl) Y
  have KX0 : Frag.In (hd.heap_162 w.params) s₁.heap := InK.keeps w _ _ ZF.2.1 L.keeps
  have KX : Frag.In (hk.heap_1 w.params) s₁.heap := frag_of KX0
  clear KX0
  have ZT := ZF.2.2.2
  clear ZF
  k_behind G ho hd' hcd hD hmg hpre hlay hrd hwl hlo cd
  have hT245 : 245 ≤ s₁.toks := Nat.le_trans (by decide) (PySem.W.X.script_toks L ZT)
  clear L ZT Y
  all_goals try k_fold
  rename Heap.IsList _ _ _ => hSL
  rename IntsAre _ _ => hSI
  refine wpAny_execs_cons ?_
  k_steps
  rename Addr => RW
  refine Halt.go ?_
  with_reducible refine wpAny_execs_cons ?_
  refine For_CT 245 (by walk_at "toks") ?_
  walk_at "steps0"
  refine Halt.go ?_
  rename Fr _ _ _ _ => Fo
  rename News _ _ _ _ => No
  try clear hcd hD
  try clear ho
  rename (¬ (63 : Int) < _) => hlen
  rename (PyData.layable0 _ = true) => hLay
  rename List Int => zs
  rename (245 ≤ Shared.toks _) => hTk
  rename IsRange _ _ _ _ _ _ _ _ => rgX
  have hz63 : zs.length ≤ 63 := by omega
  have hZ : BitsIn (2 ^ 20) zs := fun n hn => PyData.bits_item_of_ints hLay hn
  refine range_cutT (σ := List Value × List Int) 245 (fun c => [(RW, listOf c.1.toArray 0)]) (fun c => [(Str.ofString "script", .ref _), (Str.ofString "rows", .ref RW)])
      (fun i c => IntsAre c.1 c.2 ∧ c.2.length = 16 ∧ BitsIn (2 ^ 20 + i) c.2) (n := zs.length) ([.int 3 _, .int (-1) _, .int 4 _, .int 1 _, .int (-5) _, .int 9 _, .int 2 _, .int (-6) _, .int 2 _, .int 7 _, .int (-1) _, .int 8 _, .int 2 _, .int (-8) _, .int 1 _, .int 8 _], rows0) hTk rfl rfl rfl rgX (small_len hz63) (by rw [rangeSize_nat]; omega) Fo No (fun _ h9 => h9) (by kst_all) (by intro c; rfl) ?lp ?lturn ?ldone
  case lp => exact ⟨by unfold rows0; repeat (first | exact .nil | refine .cons _ _ ?_), rfl, bits_mono bits_rows0 (by decide)⟩
  case lturn =>
    clear Fo No rgX hTk
    rintro i ⟨vs, ns⟩ u h tk t own hi htk ⟨hI, hl, hB⟩ hoff F2 N2
    dsimp only at hI hl hB
    dsimp only [kstB] at F2
    dsimp only at N2
    have hne := own_ne (X := []) (fun _ h => nomatch h) hoff
    simp only [List.cons_append, List.nil_append] at N2 hne
    have hm0 : 0 ≤ Int.fmod (0 + (i : Int)) 16 := by rw [fm16]; omega
    have hm1 : Int.fmod (0 + (i : Int)) 16 < 16 := by rw [fm16]; omega
    k_steps
    refine' cut_on (?v1a, ?v2a) ?Fa ?Na ?hka ?hpa
    case Na => k_asm
    case Fa => k_asm
    case hka => kst_all
    case hpa => exact ⟨by with_reducible assumption, (List.length_set ..).trans hl, bits_set (bits_mono hB (Nat.le_succ _)) (bits_add1 (bits_getD hB _) (Nat.le_trans (bits_getD hZ _) (Nat.le_add_right _ _)))⟩
  case ldone =>
    clear Fo No rgX hTk
    rintro ⟨vs, ns⟩ u h tk htk ⟨hI, hl, hB0⟩ F2 N2
    dsimp only at hI hl hB0
    have hB : BitsIn (2 ^ 20 + 63) ns := bits_mono hB0 (by omega)
    clear hB0
    dsimp only [kstB] at F2
    dsimp only at N2
    k_steps
    refine Halt.go ?_
    with_reducible refine wpAny_execs_cons ?_
    refine cut_atT (σ := Tok) (g := s₁.heap) (L := s₁.heap.objs.size) 245 htk (fun _ => [(RW, listOf vs.toArray 0)]) (fun c => [(Str.ofString "rows", .ref RW), (Str.ofString "total", .int ns.sum c)]) (fun _ => True) ?kSum ?kMid
    case kSum =>
      k_steps
      refine' cut_in ?v1b ?Fb ?Nb ?hnb ?hkb trivial
      case Nb => k_asm
      case Fb => k_asm
      case hkb => kst_all
      case hnb => exact fun _ h9 => h9
    case kMid =>
      clear F2 N2
      rintro tz h tk u htk - F2 N2
      dsimp only [kstB] at F2
      try dsimp only
      k_steps
      walk_at "go_cons"
      k_steps
      refine Halt.go ?_
      k_dflt (refine' (texts_spec _ _ _ _ _ _ _) _ _ _ _ _ _ _ _ _ _ _ _ _ _ _ _ _ ?tx1 ?tx2 ?tx3 ?tx4 ?tx5 ?txK ?txd ?txu ?txT ?_)
      case tx1 => k_asm
      case tx2 => k_asm
      case tx3 => k_asm
      case tx4 => k_asm
      case tx5 => k_asm
      case txK => exact rfl
      case txd => ktr_room
      case txu => ktr_units
      case txT => walk_at "toks"
      rintro r9 h9 tk9 n9 ht9 F9 N9 ⟨TX, lt, ct, rfl, rfl, hlt, lTX⟩
      try dsimp only
      k_steps
      walk_at "go_cons"
      k_steps
      refine Halt.go ?_
      with_reducible refine wpAny_execs_cons ?_
      rename (Array.size _ = _) => hs1
      subst hs1
      rename Addr => TB
      rename (_ < TB ∧ TX < TB ∧ RW < TB) => lTB
      rename (IntsAre (List.flatten _) _) => hI0
      refine For_CT 0 (Nat.zero_le _) ?_
      walk_at "steps0"
      refine Halt.go ?_
      rename IsRange _ _ _ _ _ _ _ _ => rgX
      rename Fr _ _ _ _ => Fo
      rename News _ _ _ (_ :: _) => No
      refine range_cutT (σ := List Value × List Int) 0 (fun c => [(TB, listOf c.1.toArray 0), (TX, listOf (strValues lt).toArray ct), (RW, listOf vs.toArray 0)]) (fun c => [(Str.ofString "rows", .ref RW), (Str.ofString "total", .int ns.sum tz), (Str.ofString "texts", .ref TX), (Str.ofString "table", .ref TB)])
        (fun x c => IntsAre c.1 c.2 ∧ c.2.length = 8 ∧ outerG ns 8 0 [0, 0, 0, 0, 0, 0, 0, 0] = outerG ns (8 - x) x c.2) (n := 8) (_, [0, 0, 0, 0, 0, 0, 0, 0]) (Nat.zero_le _) rfl rfl rfl rgX (by decide) (by decide) Fo No ?xsub (by kst_all) (by intro c; rfl) ⟨hI0, rfl, rfl⟩ ?xTurn ?xDone
      case xsub => exact List.forall_mem_cons.mpr ⟨List.mem_cons_self .., List.forall_mem_cons.mpr ⟨by k_dflt k_mem, List.forall_mem_cons.mpr ⟨by k_dflt k_mem, fun _ h => nomatch h⟩⟩⟩
      case xTurn =>
        clear Fo No rgX hI0
        rintro i ⟨ts, tn⟩ u h tk t own hi - ⟨hI2, hl2, hT⟩ hoff F2 N2
        dsimp only at hI2 hl2 hT
        dsimp only [kstB] at F2
        simp only [Int.zero_add] at F2
        dsimp only at N2
        have hne := own_ne (X := [(TX, listOf (strValues lt).toArray ct), (RW, listOf vs.toArray 0)]) (List.forall_mem_cons.mpr ⟨Nat.ne_of_lt lTB.2.1, List.forall_mem_cons.mpr ⟨Nat.ne_of_lt lTB.2.2, fun _ h => nomatch h⟩⟩) hoff
        simp only [List.cons_append, List.nil_append] at N2 hne
        k_steps
        refine Halt.go ?_
        with_reducible refine For_CT 0 (Nat.zero_le _) ?_ ?fhs
        case fhs => (intro _; rfl)
        walk_at "steps0"
        refine Halt.go ?_
        rename IsRange _ _ _ _ _ _ _ _ => rgX
        rename Fr _ _ _ _ => Fo
        rename News _ _ _ (_ :: _) => No
        refine range_cutT (σ := List Value × List Int) 0 (fun c => (TB, listOf c.1.toArray 0) :: (TX, listOf (strValues lt).toArray ct) :: (RW, listOf vs.toArray 0) :: own) (fun c => [(Str.ofString "rows", .ref RW), (Str.ofString "total", .int ns.sum tz), (Str.ofString "texts", .ref TX), (Str.ofString "table", .ref TB), (Str.ofString "x", .int (i : Int) t)])
          (fun j c => IntsAre c.1 c.2 ∧ c.2.length = 8 ∧ innerG ns i (8 - i) i tn = innerG ns i (8 - (i + j)) (i + j) c.2) (n := 8 - i) (ts, tn) (Nat.zero_le _) rfl rfl rfl rgX (small_one (by omega) (by omega) (by omega) (by omega)) (by rw [rangeSize_nat]; omega) Fo No (fun _ h9 => h9) (by kst_all) (by intro c; rfl) ⟨hI2, hl2, rfl⟩ ?yTurn ?yDone
        case yTurn =>
          clear Fo No rgX hI2 hl2
          rintro j ⟨ts2, tn2⟩ u h tk t2 own2 hj - ⟨hI2, hl2, hT2⟩ hoff2 F2 N2
          dsimp only at hI2 hl2 hT2
          dsimp only [kstB] at F2
          dsimp only at N2
          have hne2 := own_ne hne hoff2
          simp only [List.cons_append] at N2 hne2
          have ey : (i : Int) + (j : Int) = ((i + j : Nat) : Int) := by omega
          rw [ey] at F2
          have hy8 : i + j < 8 := by omega
          generalize hy : i + j = y at F2 hT2 hy8
          refine wpAny_execs_cons ?_
          k_steps
          rename Fr _ _ _ _ => Fb
          rw [xorI hi hy8] at Fb
          refine Halt.go ?_
          with_reducible refine wpAny_execs_cons ?_
          refine cut_at (σ := (Nat × Nat) × (Tok × Tok × Tok)) (g := s₁.heap) (L := s₁.heap.objs.size) (fun _ => (TB, listOf ts2.toArray 0) :: (TX, listOf (strValues lt).toArray ct) :: (RW, listOf vs.toArray 0) :: (own ++ own2))
            (fun c => [(Str.ofString "rows", .ref RW), (Str.ofString "total", .int ns.sum tz), (Str.ofString "texts", .ref TX), (Str.ofString "table", .ref TB), (Str.ofString "x", .int (i : Int) t), (Str.ofString "y", .int (y : Int) t2), (Str.ofString "bound", .int (((i ^^^ y : Nat) : Int) + (Int.fmod ((i : Int) + ns.sum) 3 - 1)) c.2.2.2), (Str.ofString "ahead", .str (textC ns.sum c.1.1) c.2.1), (Str.ofString "behind", .str (textC ns.sum c.1.2) c.2.2.1)])
            (fun c => (c.1.1 = i ∧ c.1.2 = y) ∨ (c.1.1 = y ∧ c.1.2 = i)) ?kPair ?kTold
          case kPair =>
            obtain ⟨ta, hta⟩ := texts_at hlt hi
            obtain ⟨tb, htb⟩ := texts_at hlt hy8
            k_steps
            · refine Halt.go ?_
              k_dflt (refine' lst_item ?qaN ?qaM rfl ?qaJ hta ?_ ?qaS)
              case qaN => k_asm
              case qaM => k_dflt k_mem
              case qaJ => omega
              case qaS => with_unfolding_all rfl
              k_steps
              refine Halt.go ?_
              k_dflt (refine' lst_item ?qbN ?qbM rfl ?qbJ htb ?_ ?qbS)
              case qbN => k_asm
              case qbM => k_dflt k_mem
              case qbJ => omega
              case qbS => with_unfolding_all rfl
              k_steps
              refine' cut_in ((i, y), (?qca, ?qcb, ?qcc)) ?qcF ?qcG ?qcH ?qcK ?qcP
              case qcG => k_asm
              case qcF => k_asm
              case qcK => kst_all
              case qcH => (refine List.forall_mem_cons.mpr ⟨by k_dflt k_mem, List.forall_mem_cons.mpr ⟨by k_dflt k_mem, List.forall_mem_cons.mpr ⟨by k_dflt k_mem, fun p hp => ?_⟩⟩⟩; repeat (first | exact hp | refine List.mem_cons_of_mem _ ?_))
              case qcP => exact .inl ⟨rfl, rfl⟩
            · refine Halt.go ?_
              k_dflt (refine' lst_item ?raN ?raM rfl ?raJ htb ?_ ?raS)
              case raN => k_asm
              case raM => k_dflt k_mem
              case raJ => omega
              case raS => with_unfolding_all rfl
              k_steps
              refine Halt.go ?_
              k_dflt (refine' lst_item ?rbN ?rbM rfl ?rbJ hta ?_ ?rbS)
              case rbN => k_asm
              case rbM => k_dflt k_mem
              case rbJ => omega
              case rbS => with_unfolding_all rfl
              k_steps
              refine' cut_in ((y, i), (?rca, ?rcb, ?rcc)) ?rcF ?rcG ?rcH ?rcK ?rcP
              case rcG => k_asm
              case rcF => k_asm
              case rcK => kst_all
              case rcH => (refine List.forall_mem_cons.mpr ⟨by k_dflt k_mem, List.forall_mem_cons.mpr ⟨by k_dflt k_mem, List.forall_mem_cons.mpr ⟨by k_dflt k_mem, fun p hp => ?_⟩⟩⟩; repeat (first | exact hp | refine List.mem_cons_of_mem _ ?_))
              case rcP => exact .inr ⟨rfl, rfl⟩
          case kTold =>
            clear Fb
            rintro ⟨⟨p, q⟩, ⟨ta, tb, tc⟩⟩ h tk u hpq F2 N2
            dsimp only at hpq
            dsimp only [kstB] at F2
            try dsimp only
            k_steps
            walk_at "go_cons"
            k_steps
            refine Halt.go ?_
            k_dflt (refine' (lev_told _ _ _ _ _ _ _ _ hi hy8 hpq) _ _ _ _ _ _ _ _ _ _ _ _ _ _ _ _ _ ?lv1 ?lv2 ?lv3 ?lv4 ?lv5 ?lvK ?lvd ?lvu ?_)
            case lv1 => k_asm
            case lv2 => k_asm
            case lv3 => k_asm
            case lv4 => k_asm
            case lv5 => k_asm
            case lvK => exact rfl
            case lvd => ktr_room
            case lvu => ktr_units
            rintro r9 h9 tk9 n9 F9 N9 ⟨rfl, tl, rfl⟩
            try dsimp only
            k_steps
            walk_at "go_cons"
            refine wpAny_If ?_
            k_steps
            walk_at "go_cons"
            k_steps
            refine Halt.go ?_
            k_dflt (refine' (mul_spec _ _ _ _ _ _ _ _ _ (IntMulOk.of_le (bits_getD hB _) (bits_getD hB _) (by decide))) _ _ _ _ _ _ _ _ _ _ _ _ _ _ _ _ _ ?ml1 ?ml2 ?ml3 ?ml4 ?ml5 ?mlK ?mld ?mlu ?_)
            case ml1 => k_asm
            case ml2 => k_asm
            case ml3 => k_asm
            case ml4 => k_asm
            case ml5 => k_asm
            case mlK => exact rfl
            case mld => ktr_room
            case mlu => ktr_units
            rintro r9 h9 tk9 n9 F9 N9 ⟨rfl, tm, rfl⟩
            try dsimp only
            k_steps
            refine Halt.go ?_
            with_reducible refine wpAny_execs_cons ?_
            refine cut_at (σ := Tok) (g := s₁.heap) (L := s₁.heap.objs.size) (fun _ => (TB, listOf ts2.toArray 0) :: (TX, listOf (strValues lt).toArray ct) :: (RW, listOf vs.toArray 0) :: (own ++ own2))
              (fun c => [(Str.ofString "rows", .ref RW), (Str.ofString "total", .int ns.sum tz), (Str.ofString "texts", .ref TX), (Str.ofString "table", .ref TB), (Str.ofString "x", .int (i : Int) t), (Str.ofString "told", .int ((i ^^^ y : Nat) : Int) tl), (Str.ofString "products", .int (prodG ns i y) c)])
              (fun _ => True) ?kProd ?kSet
            case kProd =>
              refine wpAny_If ?_
              k_steps
              · refine Halt.go ?_
                k_dflt (refine' (mul_spec _ _ _ _ _ _ _ _ _ (IntMulOk.of_le (bits_getD hB _) (bits_getD hB _) (by decide))) _ _ _ _ _ _ _ _ _ _ _ _ _ _ _ _ _ ?mn1 ?mn2 ?mn3 ?mn4 ?mn5 ?mnK ?mnd ?mnu ?_)
                case mn1 => k_asm
                case mn2 => k_asm
                case mn3 => k_asm
                case mn4 => k_asm
                case mn5 => k_asm
                case mnK => exact rfl
                case mnd => ktr_room
                case mnu => ktr_units
                rintro r9 h9 tk9 n9 F9 N9 ⟨rfl, t9, rfl⟩
                try dsimp only
                k_steps
                rename ((i : Int) ≠ _) => hxy
                rename Fr _ _ _ _ => Fp
                rw [prod_two hxy] at Fp
                refine' cut_in _ ?paF ?paG ?paH ?paK trivial
                case paG => k_asm
                case paF => k_asm
                case paK => kst_all
                case paH => (refine List.forall_mem_cons.mpr ⟨by k_dflt k_mem, List.forall_mem_cons.mpr ⟨by k_dflt k_mem, List.forall_mem_cons.mpr ⟨by k_dflt k_mem, fun p hp => ?_⟩⟩⟩; repeat (first | exact hp | refine List.mem_cons_of_mem _ ?_))
              · rename ((i : Int) = _) => hxy
                rename Fr _ _ _ _ => Fp
                rw [prod_one hxy] at Fp
                refine' cut_in _ ?pbF ?pbG ?pbH ?pbK trivial
                case pbG => k_asm
                case pbF => k_asm
                case pbK => kst_all
                case pbH => (refine List.forall_mem_cons.mpr ⟨by k_dflt k_mem, List.forall_mem_cons.mpr ⟨by k_dflt k_mem, List.forall_mem_cons.mpr ⟨by k_dflt k_mem, fun p hp => ?_⟩⟩⟩; repeat (first | exact hp | refine List.mem_cons_of_mem _ ?_))
            case kSet =>
              rintro tp h tk u - F2 N2
              dsimp only [kstB] at F2
              try dsimp only
              have hx8 := xor_fin hi hy8
              k_steps
              refine Halt.go ?_
              k_dflt (refine' (getitem_spec _ _ _ _ _ _ _ _ _ _ _ ?giD hI2 ?gia ?gib ?gic) _ _ _ _ _ _ _ _ _ _ _ _ _ _ _ _ _ ?gi1 ?gi2 ?gi3 ?gi4 ?gi5 ?giK ?gid ?giu ?_)
              case gi1 => k_asm
              case gi2 => k_asm
              case gi3 => k_asm
              case gi4 => k_asm
              case gi5 => k_asm
              case giK => exact rfl
              case gid => ktr_room
              case giu => ktr_units
              case giD => k_dflt k_mem
              case gia => omega
              case gib => omega
              case gic => omega
              rintro r9 h9 tk9 n9 F9 N9 ⟨rfl, tg, rfl⟩
              try dsimp only
              k_steps
              refine Halt.go ?_
              k_dflt (refine' (setitem_spec _ _ _ _ _ _ _ _ _ _ _ _ _ ?siD hI2 ?sia ?sib ?sic) _ _ _ _ _ _ _ _ _ _ _ _ _ _ _ _ _ ?si1 ?si2 ?si3 ?si4 ?si5 ?siK ?sid ?siu ?_)
              case si1 => k_asm
              case si2 => k_asm
              case si3 => k_asm
              case si4 => k_asm
              case si5 => k_asm
              case siK => exact rfl
              case sid => ktr_room
              case siu => ktr_units
              case siD => assumption
              case sia => omega
              case sib => omega
              case sic => omega
              rintro r9 h9 tk9 n9 F9 N9 ⟨rfl, tg2, rfl⟩
              try dsimp only
              k_steps
              refine' cut_on (?yva, tn2.set (Int.toNat ((i ^^^ y : Nat) : Int)) (tn2.getD (Int.toNat ((i ^^^ y : Nat) : Int)) 0 + prodG ns i y)) ?yFa ?yNa ?yka ?ypa
              case yNa => exact N9
              case yFa => k_asm
              case yka => kst_all
              case ypa => exact ⟨ints_set hI2 _, (List.length_set ..).trans hl2, inner_next hi hy8 hy hT2⟩
        case yDone =>
          rintro ⟨ts2, tn2⟩ u h tk - ⟨hI2, hl2, hT2⟩ F2 N2
          dsimp only at hI2 hl2 hT2
          have hT3 := outer_next hi hT (inner_end hi hT2)
          dsimp only [kstB] at F2
          dsimp only at N2
          k_steps
          refine' cut_on (ts2, tn2) ?yF ?yN ?yK ⟨hI2, hl2, hT3⟩
          case yN => k_asm
          case yF => k_asm
          case yK => kst_all
      case xDone =>
        clear Fo No rgX hI0
        rintro ⟨ts, tn⟩ u h tk - ⟨hI2, hl2, hT⟩ F2 N2
        dsimp only at hI2 hl2 hT
        have hT3 : outerG ns 8 0 [0, 0, 0, 0, 0, 0, 0, 0] = tn := hT
        dsimp only [kstB] at F2
        dsimp only at N2
        k_steps
        walk_at "go_cons"
        k_steps
        refine Halt.go ?_
        k_dflt (refine Assign_comp_W (by k_asm) (by rfl) (by with_unfolding_all rfl) (by with_unfolding_all rfl) (by decide) (by rfl) (by decide) (by rfl) (by rfl) (by decide) (by rfl) (by rfl) ?_)
        have hvl : vs.length = 16 := by rw [IntsAre.length hI]; exact hl
        have hlo8 : (ns.take 8).length = 8 := by rw [List.length_take, hl]; rfl
        have hBlo : BitsIn (2 ^ 20 + 63) (ns.take 8) := fun n hn => hB n (List.mem_of_mem_take hn)
        have hBhi : BitsIn (2 ^ 20 + 63) (ns.drop 8) := fun n hn => hB n (List.mem_of_mem_drop hn)
        have hhi8 : (ns.drop 8).length = 8 := by rw [List.length_drop, hl]
        k_steps
        refine Halt.go ?_
        k_dflt (refine' kms_slice_lit ?paF ?paN ?paL ?paP ?paQ ?paE ?_ ?paS ?paT ?paZ)
        case paF => k_asm
        case paN => k_asm
        case paL => exact News.isList (by k_asm) (by k_dflt k_mem)
        case paP => exact IsPart.none
        case paQ => exact IsPart.int _ _
        case paE => exact pick_lo8 hvl
        case paS => with_unfolding_all rfl
        case paT => (intro _; with_unfolding_all rfl)
        case paZ => (show vs.toArray.size ≤ sizeLine; rw [List.size_toArray, hvl, sizeLine_eq]; decide)
        intro S1 hS1 FS1 NS1 lS1
        try clear F2 N2
        k_steps
        refine Halt.go ?_
        k_dflt (refine' (trans_spec _ _ _ _ _ _ _ _ _ ?taD (IntsAre.take hI 8) hlo8) _ _ _ _ _ _ _ _ _ _ _ _ _ _ _ _ _ ?ta1 ?ta2 ?ta3 ?ta4 ?ta5 ?taK ?tad ?tau ?_)
        case ta1 => k_asm
        case ta2 => k_asm
        case ta3 => k_asm
        case ta4 => k_asm
        case ta5 => k_asm
        case taK => exact rfl
        case tad => ktr_room
        case tau => ktr_units
        case taD => k_dflt k_mem
        rintro r9 h9 tk9 n9 F9 N9 ⟨U1, vu1, cu1, rfl, lU1, rfl, hU1, hUl1⟩
        try dsimp only
        try clear FS1 NS1
        k_steps
        refine Halt.go ?_
        k_dflt (refine' kms_slice_lit ?pbF ?pbN ?pbL ?pbP ?pbQ ?pbE ?_ ?pbS ?pbT ?pbZ)
        case pbF => k_asm
        case pbN => k_asm
        case pbL => exact News.isList (by k_asm) (by k_dflt k_mem)
        case pbP => exact IsPart.int _ _
        case pbQ => exact IsPart.none
        case pbE => exact pick_hi8 hvl
        case pbS => with_unfolding_all rfl
        case pbT => (intro _; with_unfolding_all rfl)
        case pbZ => (show vs.toArray.size ≤ sizeLine; rw [List.size_toArray, hvl, sizeLine_eq]; decide)
        intro S2 hS2 FS2 NS2 lS2
        try clear F9 N9
        k_steps
        refine Halt.go ?_
        k_dflt (refine' (trans_spec _ _ _ _ _ _ _ _ _ ?tbD (IntsAre.drop hI 8) hhi8) _ _ _ _ _ _ _ _ _ _ _ _ _ _ _ _ _ ?tb1 ?tb2 ?tb3 ?tb4 ?tb5 ?tbK ?tbd ?tbu ?_)
        case tb1 => k_asm
        case tb2 => k_asm
        case tb3 => k_asm
        case tb4 => k_asm
        case tb5 => k_asm
        case tbK => exact rfl
        case tbd => ktr_room
        case tbu => ktr_units
        case tbD => k_dflt k_mem
        rintro r9 h9 tk9 n9 F9 N9 ⟨U2, vu2, cu2, rfl, lU2, rfl, hU2, hUl2⟩
        try dsimp only
        try clear FS2 NS2
        k_steps
        refine Halt.go ?_
        refine' zip_srcW (fun i y => ∃ t, y = .int ((tailW 0 (ns.take 8)).getD i 0 * (tailW 0 (ns.drop 8)).getD i 0) t) rfl ?zF ?zN ?z1 ?z2 ?zn ?zTurn ?zFin
        case zF => k_asm
        case zN => k_asm
        case z1 => k_dflt k_mem
        case z2 => k_dflt k_mem
        case zn => (rw [IntsAre.length hU1, hUl1]; exact Nat.le_trans (Nat.min_le_left _ _) (by decide))
        case zTurn =>
          rintro i v0 v1 C oC D m₂ h tk ys own E' hi ⟨x, y, hx, hy, he⟩ hC hm0 hm1 F N
          obtain ⟨tx, rfl⟩ := IntsAre.int_at hU1 _ _ (by simpa using hx)
          obtain ⟨ty, rfl⟩ := IntsAre.int_at hU2 _ _ (by simpa using hy)
          obtain ⟨rfl, rfl⟩ := pair_inj he
          k_steps
          refine Halt.go ?_
          k_dflt (refine' (mul_spec _ _ _ _ _ _ _ _ _ (IntMulOk.of_le (bits_getD (bits_tail hBlo) _) (bits_getD (bits_tail hBhi) _) (by decide))) _ _ _ _ _ _ _ _ _ _ _ _ _ _ _ _ _ ?mz1 ?mz2 ?mz3 ?mz4 ?mz5 ?mzK ?mzd ?mzu ?_)
          case mz1 => k_asm
          case mz2 => k_asm
          case mz3 => k_asm
          case mz4 => k_asm
          case mz5 => k_asm
          case mzK => exact rfl
          case mzd => ktr_room
          case mzu => ktr_units
          rintro r9 h9 tk9 n9 F9 N9 ⟨rfl, tm, rfl⟩
          exact ⟨_, _, rfl, F9, N9, _, rfl⟩
        case zFin =>
          clear F9 N9
          intro hp D h tk zl hzl hzs N2 lD F2
          have hZI : IntsAre zl (List.zipWith (· * ·) (tailW 0 (ns.take 8)) (tailW 0 (ns.drop 8))) := ints_byD (by rw [hzl, List.length_zipWith, IntsAre.length hU1, IntsAre.length hU2]) fun j y hj => by
            obtain ⟨t, e⟩ := hzs j y hj
            exact ⟨t, by rw [zip_getD]; exact e⟩
          clear hzs
          have hzw : (List.zipWith (· * ·) (tailW 0 (ns.take 8)) (tailW 0 (ns.drop 8))).length = 8 := by rw [List.length_zipWith, hUl1, hUl2]; rfl
          k_steps
          refine Halt.go ?_
          k_dflt (refine LCg.ListComp_U (F₀ := by k_asm) (by with_unfolding_all rfl) (by decide) (by rfl) (by decide) (by rfl) ?_)
          k_steps
          refine Halt.go ?_
          refine' LCg.CompSrc.ledger (by rfl) ?lF ?lN ?lM ?lS ?_
          case lF => k_asm
          case lN => k_asm
          case lM => k_dflt k_mem
          case lS => (show ts.toArray.size ≤ sizeLine; rw [List.size_toArray, IntsAre.length hI2, hl2, sizeLine_eq]; decide)
          intro g'
          refine rest_ofL (fun i y => ∃ t, y = .int ((tn.map (· * 8)).getD i 0) t) (by k_dflt k_mem) ?cTurn ?cFin _ 0 [] (Nat.zero_add _) rfl (fun _ _ h => by simp at h)
          case cTurn =>
            intro i v I oI C oC D' m₂ h tk ys E' hv hC hm F N off hne
            obtain ⟨tv, rfl⟩ := IntsAre.int_at hI2 _ _ (by simpa using hv)
            k_steps
            refine Halt.go ?_
            k_dflt (refine' (lshift_spec _ _ _ _ _ _ _ _ _ (by decide) (shl_ok hB hT3 i)) _ _ _ _ _ _ _ _ _ _ _ _ _ _ _ _ _ ?ls1 ?ls2 ?ls3 ?ls4 ?ls5 ?lsK ?lsd ?lsu ?_)
            case ls1 => k_asm
            case ls2 => k_asm
            case ls3 => k_asm
            case ls4 => k_asm
            case ls5 => k_asm
            case lsK => exact rfl
            case lsd => ktr_room
            case lsu => ktr_units
            rintro r9 h9 tk9 n9 F9 N9 ⟨rfl, tm, rfl⟩
            exact ⟨_, _, rfl, F9, N9, shl_is i tm⟩
          case cFin =>
            intro ys hyl hys Y1 h tk F3 N3 off
            have hYI : IntsAre ys (tn.map (· * 8)) := ints_byD (by rw [hyl, List.size_toArray, List.length_map, IntsAre.length hI2]) hys
            clear hys
            try dsimp only
            k_steps
            refine Halt.go ?_
            k_dflt (refine' (trans_spec _ _ _ _ _ _ _ _ _ ?tcD hZI hzw) _ _ _ _ _ _ _ _ _ _ _ _ _ _ _ _ _ ?tc1 ?tc2 ?tc3 ?tc4 ?tc5 ?tcK ?tcd ?tcu ?_)
            case tc1 => k_asm
            case tc2 => k_asm
            case tc3 => k_asm
            case tc4 => k_asm
            case tc5 => k_asm
            case tcK => exact rfl
            case tcd => ktr_room
            case tcu => ktr_units
            case tcD => k_dflt k_mem
            rintro r9 h9 tk9 n9 F9 N9 ⟨U3, vu3, cu3, rfl, lU3, rfl, hU3, hUl3⟩
            try dsimp only
            rw [← law_plain hl hT3] at hU3 hUl3
            k_steps
            refine goodW_bool F9 hg (raisesW_false ?gNone) ?gPost
            case gNone => wrow_none_raised
            case gPost => kc_post)
end

end
end
end
end Mine
theorem PySem.Challenge.cw_wj0018_01_holds : PySem.Challenge.rw_wj0018_01.Holds :=
  Mine.law_holds
