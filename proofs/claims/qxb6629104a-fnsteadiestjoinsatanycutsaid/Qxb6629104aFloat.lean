/-
  PLAIN: float64 words: order, least of a list, negation, sums of negated words. No Go in sight.
-/
import Derived.Laws.FloatArith
namespace Go.Proofs.Qxb6629104a
open Ieee
set_option linter.unusedVariables false
set_option linter.unusedSimpArgs false

theorem dSign : double.signWeight = 9223372036854775808 := by decide
theorem dBin : double.binade = 4503599627370496 := by decide
theorem dInf : double.infRung = 9218868437227405312 := by decide
theorem dPlace : double.leastPlace = -1074 := by decide

def sgn (x : Nat) : Bool := x / 9223372036854775808 % 2 == 1
def rung (x : Nat) : Nat := x % 9223372036854775808
theorem read_eq (x : Nat) : double.read x =
    if rung x < 4503599627370496 then .number (sgn x) (rung x) (-1074)
    else if rung x < 9218868437227405312 then .number (sgn x) (4503599627370496 + rung x % 4503599627370496) (-1074 + ((rung x / 4503599627370496 - 1 : Nat) : Int))
    else if rung x = 9218868437227405312 then .infinity (sgn x) else .nan (sgn x) (rung x - 9218868437227405312) := by
  unfold Format.read
  simp only [dSign, dBin, dInf, dPlace]
  rfl

def isN (x : Nat) : Bool := decide (9218868437227405312 < rung x)
/-- The number as a whole number of least units; an infinity beyond all. -/
def huge : Nat := 3000
def top : Int := ((2 ^ huge : Nat) : Int)
def key (x : Nat) : Int :=
  if rung x < 4503599627370496 then signed (sgn x) (rung x) 0
  else if rung x < 9218868437227405312 then signed (sgn x) (4503599627370496 + rung x % 4503599627370496) (rung x / 4503599627370496 - 1)
  else if sgn x then -top else top

theorem signed_abs (s : Bool) (m u : Nat) : signed s m u = if s then -((m * 2 ^ u : Nat) : Int) else ((m * 2 ^ u : Nat) : Int) := by
  unfold signed; rw [Nat.shiftLeft_eq]
theorem signed_add (s : Bool) (m a c : Nat) : signed s m (a + c) = signed s m a * ((2 ^ c : Nat) : Int) := by
  rw [signed_abs, signed_abs, Nat.pow_add, ← Nat.mul_assoc]
  cases s
  · simp only [Bool.false_eq_true, if_false]; rw [Int.natCast_mul]
  · simp only [if_true]; rw [Int.natCast_mul, Int.neg_mul]

theorem cmp_eq (a b : Int) : compare a b = if a < b then .lt else if a = b then .eq else .gt := rfl
theorem cmp_mul (a b : Int) (c : Nat) (hc : 0 < c) : compare (a * (c : Int)) (b * (c : Int)) = compare a b := by
  have hc' : (0 : Int) < c := by omega
  rw [cmp_eq, cmp_eq]
  have h1 : a * (c : Int) < b * c ↔ a < b := Int.mul_lt_mul_right hc'
  have h2 : a * (c : Int) = b * c ↔ a = b := ⟨fun h => Int.eq_of_mul_eq_mul_right (by omega) h, fun h => by rw [h]⟩
  simp only [h1, h2]

/-- two numbers whose places are not below the least. -/
theorem order_number (s t : Bool) (m n : Nat) (a b : Nat) : Datum.order (.number s m (-1074 + (a : Int))) (.number t n (-1074 + (b : Int))) = some (compare (signed s m a) (signed t n b)) := by
  unfold Datum.order
  dsimp only
  by_cases h : a ≤ b
  · have e1 : (-1074 + (a : Int) - min (-1074 + (a : Int)) (-1074 + (b : Int))).toNat = 0 := by omega
    have e2 : (-1074 + (b : Int) - min (-1074 + (a : Int)) (-1074 + (b : Int))).toNat = b - a := by omega
    rw [e1, e2]
    have e3 : signed s m a = signed s m 0 * ((2 ^ a : Nat) : Int) := by rw [← signed_add]; simp
    have e4 : signed t n b = signed t n (b - a) * ((2 ^ a : Nat) : Int) := by rw [← signed_add]; congr 1; omega
    rw [e3, e4, cmp_mul _ _ _ (Nat.two_pow_pos _)]
  · have e1 : (-1074 + (a : Int) - min (-1074 + (a : Int)) (-1074 + (b : Int))).toNat = a - b := by omega
    have e2 : (-1074 + (b : Int) - min (-1074 + (a : Int)) (-1074 + (b : Int))).toNat = 0 := by omega
    rw [e1, e2]
    have e3 : signed s m a = signed s m (a - b) * ((2 ^ b : Nat) : Int) := by rw [← signed_add]; congr 1; omega
    have e4 : signed t n b = signed t n 0 * ((2 ^ b : Nat) : Int) := by rw [← signed_add]; simp
    rw [e3, e4, cmp_mul _ _ _ (Nat.two_pow_pos _)]

/-- a word that is no NaN, in one of two forms. -/
theorem forms (x : Nat) (h : isN x = false) : (∃ m a, double.read x = .number (sgn x) m (-1074 + (a : Nat)) ∧ key x = signed (sgn x) m a ∧ m < 9007199254740992 ∧ a ≤ 2045 ∧ (a = 0 ∨ 4503599627370496 ≤ m) ∧ rung x = a * 4503599627370496 + m) ∨
    (double.read x = .infinity (sgn x) ∧ key x = (if sgn x then -top else top) ∧ rung x = 9218868437227405312) := by
  rw [read_eq]
  unfold key
  have hr : ¬ 9218868437227405312 < rung x := by simpa [isN] using h
  by_cases h1 : rung x < 4503599627370496
  · left
    exact ⟨rung x, 0, by rw [if_pos h1]; rfl, by rw [if_pos h1], by omega, by omega, .inl rfl, by omega⟩
  · by_cases h2 : rung x < 9218868437227405312
    · left
      refine ⟨4503599627370496 + rung x % 4503599627370496, rung x / 4503599627370496 - 1, by rw [if_neg h1, if_pos h2], by rw [if_neg h1, if_pos h2], by omega, by omega, .inr (by omega), ?_⟩
      omega
    · right
      have h3 : rung x = 9218868437227405312 := by omega
      rw [if_neg h1, if_neg h2, if_pos h3, if_neg h1, if_neg h2]
      exact ⟨rfl, rfl, h3⟩

theorem signed_lt (s : Bool) (m a : Nat) (hm : m < 9007199254740992) (ha : a ≤ 2045) : -top < signed s m a ∧ signed s m a < top := by
  have h1 : m * 2 ^ a < 2 ^ huge := by
    have h2 : m * 2 ^ a < 2 ^ 53 * 2 ^ a := Nat.mul_lt_mul_of_pos_right (by omega) (Nat.two_pow_pos _)
    rw [← Nat.pow_add] at h2
    have hh : 53 + a ≤ huge := by unfold huge; omega
    exact Nat.lt_of_lt_of_le h2 (Nat.pow_le_pow_right (by omega) hh)
  rw [signed_abs, top]
  generalize (2 : Nat) ^ huge = T at *
  generalize m * 2 ^ a = M at *
  cases s
  · simp only [Bool.false_eq_true, if_false]; omega
  · simp only [if_true]; omega
theorem top_pos : 0 < top := by
  have := Nat.two_pow_pos huge
  rw [top]
  generalize (2 : Nat) ^ huge = T at *
  omega

theorem order_key (x y : Nat) (hx : isN x = false) (hy : isN y = false) : double.order x y = some (compare (key x) (key y)) := by
  unfold Format.order
  have tp := top_pos
  rcases forms x hx with ⟨m, a, e1, k1, b1, c1, _⟩ | ⟨e1, k1, _⟩ <;> rcases forms y hy with ⟨n, b, e2, k2, b2, c2, _⟩ | ⟨e2, k2, _⟩
  · rw [e1, e2, k1, k2]; exact order_number _ _ _ _ _ _
  · rw [e1, e2, k1, k2]
    have := signed_lt (sgn x) m a b1 c1
    rw [cmp_eq]
    simp only [Datum.order]
    cases sgn y
    · simp only [Bool.false_eq_true, if_false]; rw [if_pos this.2]
    · simp only [if_true]; rw [if_neg (by omega), if_neg (by omega)]
  · rw [e1, e2, k1, k2]
    have := signed_lt (sgn y) n b b2 c2
    rw [cmp_eq]
    simp only [Datum.order]
    cases sgn x
    · simp only [Bool.false_eq_true, if_false]; rw [if_neg (by omega), if_neg (by omega)]
    · simp only [if_true]; rw [if_pos this.1]
  · rw [e1, e2, k1, k2, cmp_eq]
    simp only [Datum.order]
    generalize top = T at *
    cases sgn x <;> cases sgn y <;> simp only [Bool.false_eq_true, if_false, if_true] <;> congr 1
    · rw [if_neg (by omega)]; rfl
    · rw [if_neg (by omega), if_neg (by omega)]; rfl
    · rw [if_pos (by omega)]; rfl
    · rw [if_neg (by omega)]; rfl
theorem read_nan (x : Nat) (h : isN x = true) : ∃ s t, double.read x = .nan s t := by
  have hr : 9218868437227405312 < rung x := by simpa [isN] using h
  rw [read_eq, if_neg (by omega), if_neg (by omega), if_neg (by omega)]
  exact ⟨_, _, rfl⟩
theorem order_nan (x y : Nat) (h : isN x = true ∨ isN y = true) : double.order x y = none := by
  unfold Format.order
  rcases h with h | h
  · obtain ⟨s, t, e⟩ := read_nan x h
    rw [e]; simp [Datum.order]
  · obtain ⟨s, t, e⟩ := read_nan y h
    rw [e]; cases double.read x <;> simp [Datum.order]

/-! ### what the six comparisons say -/
theorem key_sign (x : Nat) (h : isN x = false) : (sgn x = true → key x ≤ 0) ∧ (sgn x = false → 0 ≤ key x) := by
  have tp := top_pos
  rcases forms x h with ⟨m, a, _, k, _⟩ | ⟨_, k, _⟩
  · rw [k, signed_abs]
    cases sgn x
    · simp only [Bool.false_eq_true, if_false]; exact ⟨fun h => (by cases h), fun _ => by omega⟩
    · simp only [if_true]; exact ⟨fun _ => (by omega), fun h => by cases h⟩
  · rw [k]
    cases sgn x
    · simp only [Bool.false_eq_true, if_false]; exact ⟨fun h => (by cases h), fun _ => by omega⟩
    · simp only [if_true]; exact ⟨fun _ => (by omega), fun h => by cases h⟩
theorem key_zero (x : Nat) (h : isN x = false) : key x = 0 ↔ rung x = 0 := by
  have tp := top_pos
  rcases forms x h with ⟨m, a, _, k, h1, h2, h3, h4⟩ | ⟨_, k, h3⟩
  · rw [k, signed_abs]
    have hp := Nat.two_pow_pos a
    constructor
    · intro h0
      have hm : m * 2 ^ a = 0 := by
        split at h0 <;> omega
      have hm0 : m = 0 := by
        rcases Nat.mul_eq_zero.1 hm with h5 | h5
        · exact h5
        · omega
      omega
    · intro h0
      have hm0 : m = 0 := by omega
      rw [hm0]; cases sgn x <;> simp
  · rw [k]
    constructor
    · intro h0
      split at h0 <;> omega
    · intro h0; omega

/-- the order in which -0 stands below +0. -/
def okey (x : Nat) : Int := 2 * key x + (if sgn x then -1 else 1)
theorem okey_lt (x y : Nat) (hx : isN x = false) (hy : isN y = false) : okey x < okey y ↔ key x < key y ∨ (key x = 0 ∧ key y = 0 ∧ sgn x = true ∧ sgn y = false) := by
  have a := key_sign x hx
  have b := key_sign y hy
  unfold okey
  cases hsx : sgn x <;> cases hsy : sgn y <;> simp [hsx, hsy] at a b ⊢ <;> omega
theorem okey_eq (x y : Nat) (hx : isN x = false) (hy : isN y = false) : okey x = okey y ↔ key x = key y ∧ (key x = 0 → sgn x = sgn y) := by
  have a := key_sign x hx
  have b := key_sign y hy
  unfold okey
  cases hsx : sgn x <;> cases hsy : sgn y <;> simp [hsx, hsy] at a b ⊢ <;> omega

theorem c_eql (x y : Nat) (hx : isN x = false) (hy : isN y = false) : (FloatKind.f64.format.order x y == some .eq) = decide (key x = key y) := by
  show (double.order x y == some .eq) = _
  rw [order_key x y hx hy, cmp_eq]
  by_cases h1 : key x < key y
  · have h2 : ¬ key x = key y := by omega
    rw [if_pos h1]; simp [h2]
  · by_cases h2 : key x = key y <;> simp [h1, h2]
theorem c_neq (x y : Nat) (hx : isN x = false) (hy : isN y = false) : (FloatKind.f64.format.order x y != some .eq) = !decide (key x = key y) := by
  rw [bne, c_eql x y hx hy]
theorem c_lss (x y : Nat) (hx : isN x = false) (hy : isN y = false) : (FloatKind.f64.format.order x y == some .lt) = decide (key x < key y) := by
  show (double.order x y == some .lt) = _
  rw [order_key x y hx hy, cmp_eq]
  by_cases h1 : key x < key y
  · rw [if_pos h1]; simp [h1]
  · by_cases h2 : key x = key y <;> simp [h1, h2]
theorem c_gtr (x y : Nat) (hx : isN x = false) (hy : isN y = false) : (FloatKind.f64.format.order x y == some .gt) = decide (key y < key x) := by
  show (double.order x y == some .gt) = _
  rw [order_key x y hx hy, cmp_eq]
  by_cases h1 : key x < key y
  · have h2 : ¬ key y < key x := by omega
    rw [if_pos h1]; simp [h2]
  · by_cases h2 : key x = key y
    · have h3 : ¬ key y < key x := by omega
      simp [h1, h2]
    · have h3 : key y < key x := by omega
      simp [h1, h2, h3]
theorem n_eql (x y : Nat) (h : isN x = true ∨ isN y = true) : (FloatKind.f64.format.order x y == some .eq) = false := by
  show (double.order x y == some .eq) = _; rw [order_nan x y h]; rfl
theorem n_neq (x y : Nat) (h : isN x = true ∨ isN y = true) : (FloatKind.f64.format.order x y != some .eq) = true := by
  show (double.order x y != some .eq) = _; rw [order_nan x y h]; rfl
theorem self_neq (x : Nat) : (FloatKind.f64.format.order x x != some .eq) = isN x := by
  cases h : isN x
  · rw [c_neq x x h h]; simp
  · rw [n_neq x x (.inl h)]
theorem zero_word (x : Nat) (hx : x < 18446744073709551616) (hr : rung x = 0) : x = if sgn x then 9223372036854775808 else 0 := by
  unfold rung at hr
  unfold sgn
  by_cases h : x / 9223372036854775808 % 2 = 1
  · simp [h]; omega
  · simp [h]; omega

/-! ### the least of a list; the greatest -/
structure Least (s : Nat) (xs : List Nat) : Prop where
  fits : s < 18446744073709551616
  nan : (∃ x ∈ xs, isN x = true) → isN s = true
  num : (∀ x ∈ xs, isN x = false) → isN s = false ∧ (∃ x ∈ xs, okey x = okey s) ∧ ∀ x ∈ xs, okey s ≤ okey x
structure Greatest (s : Nat) (xs : List Nat) : Prop where
  fits : s < 18446744073709551616
  nan : (∃ x ∈ xs, isN x = true) → isN s = true
  num : (∀ x ∈ xs, isN x = false) → isN s = false ∧ (∃ x ∈ xs, okey x = okey s) ∧ ∀ x ∈ xs, okey x ≤ okey s

/-- what 'min' of two gives. -/
def MinR (x y r : Nat) : Prop := r < 18446744073709551616 ∧ ((isN x = true ∨ isN y = true) → isN r = true) ∧ (isN x = false → isN y = false → (r = x ∨ r = y) ∧ okey r ≤ okey x ∧ okey r ≤ okey y)

theorem least_one (x : Nat) (hx : x < 18446744073709551616) : Least x [x] :=
  ⟨hx, fun ⟨y, hy, h⟩ => by simp at hy; rw [← hy]; exact h, fun h => ⟨h x (by simp), ⟨x, by simp, rfl⟩, fun y hy => by simp at hy; rw [hy]; exact Int.le_refl _⟩⟩
theorem least_step {s x r : Nat} {xs : List Nat} (h : Least s xs) (hm : MinR s x r) : Least r (xs ++ [x]) := by
  refine ⟨hm.1, fun ⟨y, hy, hn⟩ => ?_, fun hall => ?_⟩
  · rcases List.mem_append.1 hy with h1 | h1
    · exact hm.2.1 (.inl (h.nan ⟨y, h1, hn⟩))
    · simp at h1; subst h1; exact hm.2.1 (.inr hn)
  · have hx := hall x (by simp)
    obtain ⟨h1, ⟨z, hz, ez⟩, h3⟩ := h.num (fun y hy => hall y (by simp [hy]))
    obtain ⟨h4, h5, h6⟩ := hm.2.2 h1 hx
    refine ⟨?_, ?_, fun y hy => ?_⟩
    · rcases h4 with e | e <;> rw [e] <;> assumption
    · rcases h4 with e | e
      · exact ⟨z, by simp [hz], by rw [ez, e]⟩
      · exact ⟨x, by simp, by rw [e]⟩
    · rcases List.mem_append.1 hy with h7 | h7
      · exact Int.le_trans h5 (h3 y h7)
      · simp at h7; subst h7; exact h6
theorem least_same {s : Nat} {xs ys : List Nat} (h : Least s xs) (hm : ∀ x, x ∈ xs ↔ x ∈ ys) : Least s ys :=
  ⟨h.fits, fun ⟨x, hx, hn⟩ => h.nan ⟨x, (hm x).2 hx, hn⟩, fun hall => by
    obtain ⟨h1, ⟨z, hz, ez⟩, h3⟩ := h.num (fun x hx => hall x ((hm x).1 hx))
    exact ⟨h1, ⟨z, (hm z).1 hz, ez⟩, fun x hx => h3 x ((hm x).2 hx)⟩⟩
theorem all_of {s : Nat} {xs : List Nat} (h : Least s xs) (hs : isN s = false) : ∀ x ∈ xs, isN x = false := by
  intro x hx
  cases e : isN x
  · rfl
  · rw [h.nan ⟨x, hx, e⟩] at hs; cases hs
/-- THE JOIN. -/
theorem least_join {r sa sb : Nat} {a b : List Nat} (h : Least r (a ++ b)) (ha : Least sa a) (hb : Least sb b) : Least r [sa, sb] := by
  refine ⟨h.fits, fun ⟨y, hy, hn⟩ => ?_, fun hall => ?_⟩
  · apply h.nan
    simp at hy
    rcases hy with rfl | rfl
    · apply Classical.byContradiction
      intro hno
      have hnone : ∀ x ∈ a, isN x = false := fun x hx => by
        cases e : isN x
        · rfl
        · exact absurd ⟨x, by simp [hx], e⟩ hno
      rw [(ha.num hnone).1] at hn; cases hn
    · apply Classical.byContradiction
      intro hno
      have hnone : ∀ x ∈ b, isN x = false := fun x hx => by
        cases e : isN x
        · rfl
        · exact absurd ⟨x, by simp [hx], e⟩ hno
      rw [(hb.num hnone).1] at hn; cases hn
  · have na := all_of ha (hall sa (by simp))
    have nb := all_of hb (hall sb (by simp))
    obtain ⟨_, ⟨za, hza, eza⟩, la⟩ := ha.num na
    obtain ⟨_, ⟨zb, hzb, ezb⟩, lb⟩ := hb.num nb
    obtain ⟨h1, ⟨z, hz, ez⟩, h3⟩ := h.num (fun x hx => by
      rcases List.mem_append.1 hx with h | h
      · exact na x h
      · exact nb x h)
    have ra : okey r ≤ okey sa := by rw [← eza]; exact h3 za (by simp [hza])
    have rb : okey r ≤ okey sb := by rw [← ezb]; exact h3 zb (by simp [hzb])
    refine ⟨h1, ?_, fun x hx => by simp at hx; rcases hx with rfl | rfl <;> assumption⟩
    rcases List.mem_append.1 hz with h | h
    · exact ⟨sa, by simp, by have := la z h; omega⟩
    · exact ⟨sb, by simp, by have := lb z h; omega⟩

end Go.Proofs.Qxb6629104a
