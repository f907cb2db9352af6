/-
  PLAIN, for FnAddRangeIsUnionWithExactInterval.
-/
import Derived.Test.Qxb6629032aOpen
namespace Go.Proofs.Qxb6629032a
open Go.RowKit
set_option linter.unusedVariables false
set_option linter.unusedSimpArgs false

theorem zeros_getD (j : Nat) : zeros.getD j 0 = 0 := by
  rw [List.getD_eq_getElem?_getD]
  by_cases h : j < 256
  · unfold zeros; rw [List.getElem?_replicate, if_pos h]; rfl
  · rw [List.getElem?_eq_none (by rw [zeros_words.1]; omega)]; rfl
theorem slot_zeros (i : Nat) : slot zeros i = false := by unfold slot; rw [zeros_getD]; simp
theorem slot_range (f l i : Nat) (hi : i < 16384) : slot (addR zeros f l) i = decide (f ≤ i ∧ i ≤ l) := by
  rw [slot_addR _ zeros_words.1 _ _ _ hi, slot_zeros, Bool.false_or]
theorem addR_or {ws : List Nat} (hw : Words ws) (f l j : Nat) (hj : j < 256) : (addR ws f l).getD j 0 = ws.getD j 0 ||| (addR zeros f l).getD j 0 := by
  unfold addR
  rw [addTo_getD _ _ _ _ _ (by rw [hw.1]; exact hj), addTo_getD _ _ _ _ _ (by rw [zeros_words.1]; exact hj), zeros_getD]
  split <;> simp
theorem addR_again {ws : List Nat} (hw : Words ws) (f l : Nat) : addR (addR ws f l) f l = addR ws f l := by
  refine words_ext (addR_words (addR_words hw _ _) _ _) (addR_words hw _ _) (fun i hi => ?_)
  rw [slot_addR _ (addR_words hw _ _).1 _ _ _ hi, slot_addR _ hw.1 _ _ _ hi, Bool.or_assoc, Bool.or_self]
theorem addR_none (f l : Nat) (h : l < f) : addR zeros f l = zeros := by
  refine words_ext (addR_words zeros_words _ _) zeros_words (fun i hi => ?_)
  rw [slot_range _ _ _ hi, slot_zeros]
  simp; omega
theorem or_cell {ws : List Nat} (hw : Words ws) (f l j : Nat) (hj : j < 256) : ((addR ws f l).getD j 0 : Int) = bits .or .u64 (ws.getD j 0 : Nat) ((addR zeros f l).getD j 0 : Nat) := by
  have h1 : ws.getD j 0 < 18446744073709551616 := by
    have e : ws.getD j 0 = ws[j]'(by rw [hw.1]; exact hj) := by simp [List.getD_eq_getElem?_getD, hw.1, hj]
    rw [e]; exact hw.2 _ (List.getElem_mem _)
  have hz := addR_words zeros_words f l
  have h2 : (addR zeros f l).getD j 0 < 18446744073709551616 := by
    have e : (addR zeros f l).getD j 0 = (addR zeros f l)[j]'(by rw [hz.1]; exact hj) := by simp [List.getD_eq_getElem?_getD, hz.1, hj]
    rw [e]; exact hz.2 _ (List.getElem_mem _)
  rw [u64_or_nat _ _ h1 h2, addR_or hw f l j hj]

/-- the least slot met below k; the greatest; how many. -/
def loF (f k : Nat) : Int := if k ≤ f then -1 else f
def hiF (f l k : Nat) : Int := if k ≤ f then -1 else if k ≤ l then (k : Int) - 1 else l
def nF (f l k : Nat) : Int := if k ≤ f then 0 else if k ≤ l then (k : Int) - f else (l : Int) - f + 1

theorem Holds.draw {w wk : World} {bl : List (List Nat)} (h : Holds w wk bl) (n : Nat) : Holds w (wk.drewN n) bl := by
  have e : (wk.drewN n).heap = wk.heap := by simp [World.drewN]
  exact ⟨by rw [e]; exact h.size, below_drewN h.below n, fun i xs hi => by unfold At; rw [e]; exact h.at_ i xs hi, h.words⟩
end Go.Proofs.Qxb6629032a
