/-
  PLAIN: what AddRange puts into each word; no Go in sight but 'bits' (the model's word for '&' and '|').
-/
import Derived.Laws.BitsAllLaws
namespace Go.Proofs.Qxb6629032a
set_option linter.unusedVariables false
set_option linter.unusedSimpArgs false

def hiM (s : Nat) : Nat := 18446744073709551615 * 2 ^ s % 18446744073709551616
def loM (s : Nat) : Nat := 18446744073709551615 / 2 ^ (63 - s)
theorem all_bit (b : Nat) : (18446744073709551615 : Nat).testBit b = decide (b < 64) := by
  rw [show (18446744073709551615 : Nat) = 2 ^ 64 - 1 by decide, Nat.testBit_two_pow_sub_one]
theorem hiM_bit (s b : Nat) : (hiM s).testBit b = (decide (b < 64) && decide (s ≤ b)) := by
  unfold hiM
  rw [show (18446744073709551616 : Nat) = 2 ^ 64 by decide, Nat.testBit_mod_two_pow, Nat.mul_comm, Nat.testBit_two_pow_mul, all_bit]
  by_cases h : b < 64 <;> by_cases h' : s ≤ b <;> simp [h, h'] <;> omega
theorem loM_bit (s b : Nat) (hs : s < 64) : (loM s).testBit b = decide (b ≤ s) := by
  unfold loM
  rw [Nat.testBit_div_two_pow, all_bit]
  by_cases h : b ≤ s <;> simp [h] <;> omega
theorem hiM_lt (s : Nat) : hiM s < 18446744073709551616 := by unfold hiM; omega
theorem loM_lt (s : Nat) : loM s < 18446744073709551616 := by
  unfold loM
  exact Nat.lt_of_le_of_lt (Nat.div_le_self _ _) (by decide)

/-- The word that AddRange(f, l) or-s into word j. -/
def word (f l j : Nat) : Nat := (if j = f / 64 then hiM (f % 64) else 18446744073709551615) &&& (if j = l / 64 then loM (l % 64) else 18446744073709551615)
theorem word_lt (f l j : Nat) : word f l j < 18446744073709551616 := by
  unfold word
  refine Nat.lt_of_le_of_lt Nat.and_le_left ?_
  split
  · exact hiM_lt _
  · decide
theorem word_bit (f l j b : Nat) (hb : b < 64) (h1 : f / 64 ≤ j) (h2 : j ≤ l / 64) : (word f l j).testBit b = decide (f ≤ 64 * j + b ∧ 64 * j + b ≤ l) := by
  unfold word
  rw [Nat.testBit_and]
  have e1 : (if j = f / 64 then hiM (f % 64) else 18446744073709551615).testBit b = decide (f ≤ 64 * j + b) := by
    split
    · rw [hiM_bit]; rw [Bool.eq_iff_iff]; simp; omega
    · rw [all_bit]; rw [Bool.eq_iff_iff]; simp; omega
  have e2 : (if j = l / 64 then loM (l % 64) else 18446744073709551615).testBit b = decide (64 * j + b ≤ l) := by
    split
    · rw [loM_bit _ _ (by omega)]; rw [Bool.eq_iff_iff]; simp; omega
    · rw [all_bit]; rw [Bool.eq_iff_iff]; simp; omega
  rw [e1, e2]
  simp

/-! ### the four ways through the round, in the walk's own spelling -/
theorem hi_wrap (f : Nat) : IntKind.u64.wrap ((18446744073709551615 : Int) * 2 ^ (f % 64)) = (hiM (f % 64) : Int) := by
  rw [IntKind.wrap_u64]; unfold hiM; simp
theorem lo_quot (l : Nat) : (18446744073709551615 : Int) / 2 ^ (63 - l % 64) = (loM (l % 64) : Int) := by
  unfold loM; simp
theorem and_all (x : Nat) (h : x < 18446744073709551616) : bits .and .u64 (18446744073709551615 : Int) (x : Int) = (x : Int) := by
  have := u64_and_nat 18446744073709551615 x (by decide) h
  rw [show ((18446744073709551615 : Nat) : Int) = 18446744073709551615 by rfl] at this
  rw [this]
  congr 1
  apply Nat.eq_of_testBit_eq
  intro b
  rw [Nat.testBit_and, all_bit]
  by_cases hb : b < 64
  · simp [hb]
  · have : x.testBit b = false := Nat.testBit_lt_two_pow (Nat.lt_of_lt_of_le h (by
      have : 2 ^ 64 ≤ 2 ^ b := Nat.pow_le_pow_right (by omega) (by omega)
      simpa using this))
    simp [this]
theorem nat_and_all (x : Nat) (h : x < 18446744073709551616) : x &&& 18446744073709551615 = x := by
  have := and_all x h
  have h2 := u64_and_nat 18446744073709551615 x (by decide) h
  rw [show ((18446744073709551615 : Nat) : Int) = 18446744073709551615 by rfl, this] at h2
  rw [Nat.and_comm]
  omega
theorem word_both (f l j : Nat) (h1 : j = f / 64) (h2 : j = l / 64) :
    bits .and .u64 (bits .and .u64 (18446744073709551615 : Int) (IntKind.u64.wrap ((18446744073709551615 : Int) * 2 ^ (f % 64)))) ((18446744073709551615 : Int) / 2 ^ (63 - l % 64)) = (word f l j : Int) := by
  rw [hi_wrap, lo_quot, and_all _ (hiM_lt _), u64_and_nat _ _ (hiM_lt _) (loM_lt _), word, if_pos h1, if_pos h2]
theorem word_first (f l j : Nat) (h1 : j = f / 64) (h2 : ¬ j = l / 64) :
    bits .and .u64 (18446744073709551615 : Int) (IntKind.u64.wrap ((18446744073709551615 : Int) * 2 ^ (f % 64))) = (word f l j : Int) := by
  rw [hi_wrap, and_all _ (hiM_lt _), word, if_pos h1, if_neg h2, nat_and_all _ (hiM_lt _)]
theorem word_last (f l j : Nat) (h1 : ¬ j = f / 64) (h2 : j = l / 64) :
    bits .and .u64 (18446744073709551615 : Int) ((18446744073709551615 : Int) / 2 ^ (63 - l % 64)) = (word f l j : Int) := by
  rw [lo_quot, and_all _ (loM_lt _), word, if_neg h1, if_pos h2, Nat.and_comm, nat_and_all _ (loM_lt _)]
theorem word_none (f l j : Nat) (h1 : ¬ j = f / 64) (h2 : ¬ j = l / 64) : (18446744073709551615 : Int) = (word f l j : Int) := by
  rw [word, if_neg h1, if_neg h2]; rfl

/-! ### the set behind AddRange -/
def addTo (xs : List Nat) (f l k : Nat) : List Nat := xs.mapIdx fun j x => if f / 64 ≤ j ∧ j < k then x ||| word f l j else x
def addR (xs : List Nat) (f l : Nat) : List Nat := addTo xs f l (l / 64 + 1)
def Words (xs : List Nat) : Prop := xs.length = 256 ∧ ∀ x ∈ xs, x < 18446744073709551616

theorem addTo_len (xs : List Nat) (f l k : Nat) : (addTo xs f l k).length = xs.length := by simp [addTo]
theorem addTo_start (xs : List Nat) (f l : Nat) : addTo xs f l (f / 64) = xs := by
  unfold addTo
  apply List.ext_getElem?
  intro i
  rw [List.getElem?_mapIdx]
  have : ¬ (f / 64 ≤ i ∧ i < f / 64) := by omega
  simp only [if_neg this]
  cases xs[i]? <;> rfl
theorem addTo_getD (xs : List Nat) (f l k j : Nat) (hj : j < xs.length) : (addTo xs f l k).getD j 0 = if f / 64 ≤ j ∧ j < k then xs.getD j 0 ||| word f l j else xs.getD j 0 := by
  simp [addTo, List.getD_eq_getElem?_getD, List.getElem?_mapIdx, hj]
theorem addTo_step (xs : List Nat) (f l k : Nat) (hk : k < xs.length) (h1 : f / 64 ≤ k) : (addTo xs f l k).set k (xs.getD k 0 ||| word f l k) = addTo xs f l (k + 1) := by
  apply List.ext_getElem?
  intro i
  unfold addTo
  rw [List.getElem?_set, List.getElem?_mapIdx, List.getElem?_mapIdx]
  by_cases e : k = i
  · subst e
    have : f / 64 ≤ k ∧ k < k + 1 := by omega
    simp [hk, this, List.getD_eq_getElem?_getD]
  · have : (f / 64 ≤ i ∧ i < k) ↔ (f / 64 ≤ i ∧ i < k + 1) := by omega
    simp [e, this]
theorem addTo_stop (xs : List Nat) (f l k : Nat) (h1 : f / 64 ≤ k) (h2 : l / 64 < k) (h3 : k ≤ max (f / 64) (l / 64 + 1)) : addTo xs f l k = addR xs f l := by
  unfold addR addTo
  apply List.ext_getElem?
  intro i
  rw [List.getElem?_mapIdx, List.getElem?_mapIdx]
  have : (f / 64 ≤ i ∧ i < k) ↔ (f / 64 ≤ i ∧ i < l / 64 + 1) := by omega
  simp only [this]
theorem addTo_words {xs : List Nat} (h : Words xs) (f l k : Nat) : Words (addTo xs f l k) := by
  refine ⟨by rw [addTo_len]; exact h.1, fun x hx => ?_⟩
  unfold addTo at hx
  obtain ⟨i, hi, e⟩ := List.mem_mapIdx.1 hx
  have h0 := h.2 _ (List.getElem_mem hi)
  rw [← e]
  split
  · have := Nat.or_lt_two_pow (n := 64) (x := xs[i]) (y := word f l i) (by omega) (by have := word_lt f l i; omega)
    omega
  · exact h0
theorem addR_words {xs : List Nat} (h : Words xs) (f l : Nat) : Words (addR xs f l) := addTo_words h f l _

/-- Slot i in the set xs. -/
def slot (xs : List Nat) (i : Nat) : Bool := (xs.getD (i / 64) 0).testBit (i % 64)

theorem slot_addR (xs : List Nat) (hx : xs.length = 256) (f l i : Nat) (hi : i < 16384) : slot (addR xs f l) i = (slot xs i || decide (f ≤ i ∧ i ≤ l)) := by
  unfold slot addR
  rw [addTo_getD _ _ _ _ _ (by omega)]
  split
  · rename_i h
    rw [Nat.testBit_or, word_bit f l (i / 64) (i % 64) (by omega) h.1 (by omega), show 64 * (i / 64) + i % 64 = i by omega]
  · have : ¬ (f ≤ i ∧ i ≤ l) := by omega
    simp [this]

/-- Two sets of 256 words with the same slots are one. -/
theorem words_ext {xs ys : List Nat} (hx : Words xs) (hy : Words ys) (h : ∀ i, i < 16384 → slot xs i = slot ys i) : xs = ys := by
  apply List.ext_getElem (by rw [hx.1, hy.1])
  intro j h1 h2
  apply Nat.eq_of_testBit_eq
  intro b
  have b1 := hx.2 _ (List.getElem_mem h1)
  have b2 := hy.2 _ (List.getElem_mem h2)
  have hl := hx.1
  by_cases hb : b < 64
  · have := h (64 * j + b) (by omega)
    unfold slot at this
    rw [show (64 * j + b) / 64 = j by omega, show (64 * j + b) % 64 = b by omega] at this
    simpa [List.getD_eq_getElem?_getD, h1, h2] using this
  · have hp : 2 ^ 64 ≤ 2 ^ b := Nat.pow_le_pow_right (by omega) (by omega)
    rw [Nat.testBit_lt_two_pow (x := xs[j]) (i := b) (by omega), Nat.testBit_lt_two_pow (x := ys[j]) (i := b) (by omega)]

/-- THE SPLIT. -/
theorem addR_split {xs : List Nat} (hx : Words xs) (f m l : Nat) (h1 : f ≤ m) (h2 : m < l) (hl : l < 16384) : addR (addR xs f m) (m + 1) l = addR xs f l := by
  refine words_ext (addR_words (addR_words hx _ _) _ _) (addR_words hx _ _) (fun i hi => ?_)
  rw [slot_addR _ (addR_words hx _ _).1 _ _ _ hi, slot_addR _ hx.1 _ _ _ hi, slot_addR _ hx.1 _ _ _ hi]
  by_cases a : f ≤ i ∧ i ≤ l
  · by_cases b : i ≤ m
    · have c : f ≤ i ∧ i ≤ m := ⟨a.1, b⟩
      simp [a, c]
    · have c : m + 1 ≤ i ∧ i ≤ l := ⟨by omega, a.2⟩
      simp [a, c]
  · have c : ¬ (f ≤ i ∧ i ≤ m) := by omega
    have d : ¬ (m + 1 ≤ i ∧ i ≤ l) := by omega
    simp [a, c, d]

end Go.Proofs.Qxb6629032a
