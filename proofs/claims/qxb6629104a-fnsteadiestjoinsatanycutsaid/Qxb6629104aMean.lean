/-
  PLAIN: the mean of one float64 word is that word, but for a zero's sign.
-/
import Derived.Test.Qxb6629104aSum
namespace Go.Proofs.Qxb6629104a
open Ieee
set_option linter.unusedVariables false
set_option linter.unusedSimpArgs false

theorem log2_mul_pow (m c : Nat) (hm : m ≠ 0) : (m * 2 ^ c).log2 = m.log2 + c := by
  have hp := Nat.two_pow_pos c
  have h0 : m * 2 ^ c ≠ 0 := Nat.mul_ne_zero hm (by omega)
  rw [Nat.log2_eq_iff h0]
  have h1 := Nat.log2_self_le hm
  have h2 := @Nat.lt_log2_self m
  constructor
  · rw [Nat.pow_add]; exact Nat.mul_le_mul_right _ h1
  · rw [show m.log2 + c + 1 = (m.log2 + 1) + c by omega, Nat.pow_add]
    exact Nat.mul_lt_mul_of_pos_right h2 hp
theorem cut_exact (m c : Nat) (hm : m ≠ 0) : Toward.even.cut false (m * 2 ^ c) c = m := by
  unfold Toward.cut
  have hl := log2_mul_pow m c hm
  have hmin : min c ((m * 2 ^ c).log2 + 2) = c := by omega
  have hp := Nat.two_pow_pos c
  simp only [hmin, Nat.shiftLeft_eq, Nat.one_mul, Nat.mul_mod_left, Nat.mul_div_cancel _ hp, Nat.mul_zero]
  have h1 : ¬ 2 ^ c < 0 := by omega
  have h2 : (2 ^ c == 0) = false := by simp
  rw [h2]
  simp
theorem lg (m a : Nat) (hm : m ≠ 0) (h53 : m < 9007199254740992) (hc : a = 0 ∨ 4503599627370496 ≤ m) : m.log2 < 53 ∧ (a = 0 ∨ m.log2 = 52) := by
  have hl1 : m.log2 < 53 := (Nat.log2_lt hm).2 (Nat.lt_of_lt_of_le h53 (by decide))
  refine ⟨hl1, ?_⟩
  rcases hc with h | h
  · exact .inl h
  · right
    have h5 : ¬ m.log2 < 52 := fun h5 => by
      have h6 := (Nat.log2_lt hm).1 h5
      have h7 : (2 : Nat) ^ 52 = 4503599627370496 := by decide
      rw [h7] at h6
      omega
    omega
theorem wr_eq (M : Nat) (p : Int) (h0 : M ≠ 0) (last : Int) (hl : max (p + M.log2 - 52) (-1074) = last) : wr M p = min ((last - (-1074)).toNat * 4503599627370496 + Toward.even.cut false (M <<< (p - last).toNat) (last - p).toNat) 9218868437227405312 := by
  subst hl
  unfold wr
  rw [if_neg h0]
theorem wr_at (m a c M : Nat) (h0 : M ≠ 0) (hl : M.log2 = m.log2 + c) (hcut : Toward.even.cut false M c = m) (hl1 : m.log2 < 53) (hl2 : a = 0 ∨ m.log2 = 52) (h53 : m < 9007199254740992) (ha : a ≤ 2045) : wr M (-1074 + (a : Int) - (c : Int)) = a * 4503599627370496 + m := by
  rw [wr_eq M _ h0 (-1074 + (a : Int)) (by rw [hl]; rcases hl2 with h | h <;> omega)]
  have e1 : (-1074 + (a : Int) - (c : Int) - (-1074 + (a : Int))).toNat = 0 := by omega
  have e2 : (-1074 + (a : Int) - (-1074 + (a : Int) - (c : Int))).toNat = c := by omega
  have e3 : (-1074 + (a : Int) - (-1074)).toNat = a := by omega
  rw [e1, e2, e3, Nat.shiftLeft_zero, hcut]
  omega
theorem wr_exact (m a c M : Nat) (hM : M = m * 2 ^ c) (hm : m ≠ 0) (h53 : m < 9007199254740992) (hc : a = 0 ∨ 4503599627370496 ≤ m) (ha : a ≤ 2045) : wr M (-1074 + (a : Int) - (c : Int)) = a * 4503599627370496 + m :=
  wr_at m a c M (by rw [hM]; exact Nat.mul_ne_zero hm (Nat.ne_of_gt (Nat.two_pow_pos c))) (by rw [hM]; exact log2_mul_pow m c hm) (by rw [hM]; exact cut_exact m c hm) (lg m a hm h53 hc).1 (lg m a hm h53 hc).2 h53 ha

/-- the word 1. -/
def one : Nat := 4607182418800017408
theorem read_one : double.read one = .number false 4503599627370496 (-52) := by decide
theorem read_zero : double.read 0 = .number false 0 (-1074) := by decide

theorem signed_parts (s : Bool) (m a M : Nat) (hM : M = m * 2 ^ a) (h0 : 0 < M) : (signed s m a).natAbs = M ∧ ¬ signed s m a = 0 ∧ decide (signed s m a < 0) = s := by
  rw [signed_abs, ← hM]
  cases s
  · simp only [Bool.false_eq_true, if_false]
    refine ⟨by omega, by omega, by simp⟩
  · simp only [if_true]
    refine ⟨by omega, by omega, ?_⟩
    simp; exact h0
/-- a word that is neither NaN nor zero nor infinite. -/
theorem nonzero_form (m a r : Nat) (h3 : a = 0 ∨ 4503599627370496 ≤ m) (h4 : r = a * 4503599627370496 + m) (hz : r ≠ 0) : m ≠ 0 := by
  intro hm
  rcases h3 with h5 | h5
  · apply hz; rw [h4, hm, h5]
  · omega
theorem sum_zero (s : Bool) (m a : Nat) : Datum.sum (.number false 0 (-1074)) (.number s m (-1074 + (a : Int))) = some (.number (if signed s m a = 0 then false else decide (signed s m a < 0)) (signed s m a).natAbs (-1074)) := by
  have hb : min (-1074 : Int) (-1074 + (a : Int)) = -1074 := by omega
  have e0 : signed false 0 ((-1074 : Int) - (-1074)).toNat = 0 := by rw [signed_abs]; simp
  have e1 : (-1074 + (a : Int) - (-1074)).toNat = a := by omega
  simp only [Datum.sum, hb, e0, e1, Int.zero_add, Bool.false_and]
theorem add_zero (x : Nat) (hx : x < 18446744073709551616) (h : isN x = false) : double.add 0 x = some (if rung x = 0 then 0 else x) := by
  unfold Format.add
  rw [read_zero]
  rcases forms x h with ⟨m, a, e, k, h1, h2, h3, h4⟩ | ⟨e, k, hr⟩
  · rw [e, sum_zero, Option.map_some]
    congr 1
    by_cases hz : rung x = 0
    · have hm0 : m = 0 := by omega
      have es : signed (sgn x) m a = 0 := by rw [hm0, signed_abs]; cases sgn x <;> simp
      rw [es, if_pos hz, write_number]
      simp [wr, Format.word]
    · have hm0 := nonzero_form m a _ h3 h4 hz
      obtain ⟨M, hM⟩ : ∃ M, M = m * 2 ^ a := ⟨_, rfl⟩
      have hM0 : 0 < M := by rw [hM]; exact Nat.mul_pos (Nat.pos_of_ne_zero hm0) (Nat.two_pow_pos a)
      obtain ⟨p1, p2, p3⟩ := signed_parts (sgn x) m a M hM hM0
      have hw := wr_exact m a a M hM hm0 h1 h3 h2
      rw [show (-1074 + (a : Int) - (a : Int)) = -1074 by omega] at hw
      rw [if_neg p2, if_neg hz, p1, p3, write_number, hw, ← h4, word_of x hx]
  · rw [e]
    simp only [Datum.sum, Option.map_some]
    rw [if_neg (by omega), write_inf, ← hr, word_of x hx]

theorem quot_one (s : Bool) (m a c Q : Nat) (hc : c + 51 = 106 - m.log2) (hQ : (m <<< (c + 51)) / 4503599627370496 * 2 = Q) (hR : (m <<< (c + 51)) % 4503599627370496 = 0) :
    Datum.quotient 54 (.number s m (-1074 + (a : Int))) (.number false 4503599627370496 (-52)) = some (.number s Q (-1074 + (a : Int) - (c : Int))) := by
  have hlog : Nat.log2 4503599627370496 = 52 := by decide
  simp only [Datum.quotient, hlog, Bool.xor_false]
  rw [if_neg (by decide)]
  have hmore : 54 + 52 - m.log2 = c + 51 := by omega
  rw [hmore, hR]
  congr 1
  have e2 : 2 * ((m <<< (c + 51)) / 4503599627370496) + ((0 : Nat) != 0).toNat = Q := by rw [← hQ, Nat.mul_comm]; rfl
  rw [e2]
  congr 1
  omega
theorem pow_parts (m c : Nat) (hc : 1 ≤ c) : (m <<< (c + 51)) / 4503599627370496 * 2 = m * 2 ^ c ∧ (m <<< (c + 51)) % 4503599627370496 = 0 := by
  obtain ⟨d, rfl⟩ : ∃ d, c = d + 1 := ⟨c - 1, by omega⟩
  have h52 : (4503599627370496 : Nat) = 2 ^ 52 := by decide
  have e1 : m <<< (d + 1 + 51) = m * 2 ^ d * 2 ^ 52 := by
    rw [Nat.shiftLeft_eq, show d + 1 + 51 = d + 52 by omega, Nat.pow_add, ← Nat.mul_assoc]
  rw [e1, h52, Nat.mul_div_cancel _ (Nat.two_pow_pos 52), Nat.mul_mod_left]
  exact ⟨by rw [Nat.pow_succ, Nat.mul_assoc], rfl⟩
theorem div_one (x : Nat) (hx : x < 18446744073709551616) (h : isN x = false) (hz : rung x ≠ 0) : double.div x one = some x := by
  unfold Format.div
  rw [read_one, show double.fractionBits + 2 = 54 from rfl]
  rcases forms x h with ⟨m, a, e, k, h1, h2, h3, h4⟩ | ⟨e, k, hr⟩
  · have hm0 := nonzero_form m a _ h3 h4 hz
    have hl1 := (lg m a hm0 h1 h3).1
    obtain ⟨c, hc⟩ : ∃ c, c = 55 - m.log2 := ⟨_, rfl⟩
    obtain ⟨q1, q2⟩ := pow_parts m c (by omega)
    obtain ⟨M, hM⟩ : ∃ M, M = m * 2 ^ c := ⟨_, rfl⟩
    rw [← hM] at q1
    rw [e, quot_one (sgn x) m a c M (by omega) q1 q2, Option.map_some, write_number, wr_exact m a c M hM hm0 h1 h3 h2, ← h4, word_of x hx]
  · rw [e]
    simp only [Datum.quotient, Option.map_some, Bool.xor_false]
    rw [write_inf, ← hr, word_of x hx]
theorem div_zero_one : double.div 0 one = some 0 := by
  unfold Format.div
  rw [read_one, read_zero]
  simp only [Datum.quotient]
  rw [if_neg (by decide)]
  simp only [Option.map_some, write_number]
  simp [wr, Format.word]

theorem mean_one {x t m : Nat} (hx : x < 18446744073709551616) (h1 : SumTo [x] 1 t) (h2 : DivR t one m) : (isN x = true → isN m = true) ∧ (isN x = false → isN m = false ∧ key m = key x) := by
  obtain ⟨m', h0, ha⟩ := h1
  have h0' : m' = 0 := h0
  subst h0'
  simp only [List.getD_cons_zero] at ha
  constructor
  · intro hn
    have a := ha.2
    rw [add_nan 0 x (.inr hn)] at a
    have b := h2.2
    rw [div_nan t one a] at b
    exact b
  · intro hn
    have a := ha.2
    rw [add_zero x hx hn] at a
    have a' : t = if rung x = 0 then 0 else x := a
    have b := h2.2
    by_cases hz : rung x = 0
    · rw [if_pos hz] at a'
      rw [a', div_zero_one] at b
      have b' : m = 0 := b
      rw [b']
      exact ⟨by decide, by rw [(key_zero x hn).2 hz]; rfl⟩
    · rw [if_neg hz] at a'
      rw [a', div_one x hx hn hz] at b
      have b' : m = x := b
      rw [b']
      exact ⟨hn, rfl⟩
end Go.Proofs.Qxb6629104a
