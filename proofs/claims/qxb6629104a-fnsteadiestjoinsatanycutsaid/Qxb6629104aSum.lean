/-
  PLAIN: negation, sums and quotients of float64 words.
-/
import Derived.Test.Qxb6629104aFloat
namespace Go.Proofs.Qxb6629104a
open Ieee
set_option linter.unusedVariables false
set_option linter.unusedSimpArgs false

/-! ### negation -/
def ng (x : Nat) : Nat := x ^^^ 2 ^ 63
theorem ng_div (x : Nat) : ng x / 9223372036854775808 = x / 9223372036854775808 ^^^ 1 := by
  have : (9223372036854775808 : Nat) = 2 ^ 63 := by decide
  unfold ng
  rw [this, Nat.xor_div_two_pow]
theorem ng_mod (x : Nat) : ng x % 9223372036854775808 = x % 9223372036854775808 := by
  have : (9223372036854775808 : Nat) = 2 ^ 63 := by decide
  unfold ng
  rw [this, Nat.xor_mod_two_pow, Nat.mod_self]
  simp
theorem xor_one_small (q : Nat) (h : q < 2) : q ^^^ 1 = 1 - q := by
  obtain rfl | rfl : q = 0 ∨ q = 1 := by omega
  · rfl
  · rfl
theorem ng_sgn (x : Nat) (h : x < 18446744073709551616) : sgn (ng x) = !sgn x := by
  have hq : x / 9223372036854775808 < 2 := by omega
  unfold sgn
  rw [ng_div, xor_one_small _ hq]
  obtain e | e : x / 9223372036854775808 = 0 ∨ x / 9223372036854775808 = 1 := by omega
  · rw [e]; decide
  · rw [e]; decide
theorem ng_rung (x : Nat) : rung (ng x) = rung x := ng_mod x
theorem ng_fits (x : Nat) (h : x < 18446744073709551616) : ng x < 18446744073709551616 := by
  have hq : x / 9223372036854775808 < 2 := by omega
  have h1 := ng_div x
  rw [xor_one_small _ hq] at h1
  omega
theorem ng_nan (x : Nat) : isN (ng x) = isN x := by unfold isN; rw [ng_rung]
theorem signed_not (s : Bool) (m u : Nat) : signed (!s) m u = -signed s m u := by
  rw [signed_abs, signed_abs]; cases s <;> simp
theorem ng_key (x : Nat) (h : x < 18446744073709551616) : key (ng x) = -key x := by
  unfold key
  rw [ng_rung, ng_sgn x h]
  split
  · exact signed_not _ _ _
  · split
    · exact signed_not _ _ _
    · cases sgn x <;> simp
theorem ng_okey (x : Nat) (h : x < 18446744073709551616) : okey (ng x) = -okey x := by
  unfold okey
  rw [ng_key x h, ng_sgn x h]
  cases sgn x <;> simp <;> omega
theorem ng_word (s : Bool) (r : Nat) (hr : r < 9223372036854775808) : ng (double.word s r) = double.word (!s) r := by
  have h1 := ng_div (double.word s r)
  have h2 := ng_mod (double.word s r)
  unfold Format.word at *
  rw [dSign] at *
  cases s
  · simp only [Bool.false_eq_true, if_false, Bool.not_false, if_true] at *
    rw [xor_one_small _ (by omega)] at h1
    omega
  · simp only [if_true, Bool.not_true, Bool.false_eq_true, if_false] at *
    rw [xor_one_small _ (by omega)] at h1
    omega
theorem word_of (x : Nat) (h : x < 18446744073709551616) : double.word (sgn x) (rung x) = x := by
  unfold Format.word sgn rung
  rw [dSign]
  by_cases e : x / 9223372036854775808 % 2 = 1
  · simp [e]; omega
  · simp [e]; omega
theorem sgn_word (s : Bool) (r : Nat) (hr : r < 9223372036854775808) : sgn (double.word s r) = s ∧ rung (double.word s r) = r ∧ double.word s r < 18446744073709551616 := by
  unfold Format.word sgn rung
  rw [dSign]
  cases s
  · simp only [Bool.false_eq_true, if_false]
    refine ⟨?_, by omega, by omega⟩
    have : r / 9223372036854775808 = 0 := by omega
    rw [this]; rfl
  · simp only [if_true]
    refine ⟨?_, by omega, by omega⟩
    have : (9223372036854775808 + r) / 9223372036854775808 = 1 := by omega
    rw [this]; rfl

/-- THE MIRROR: least of the negated is minus the greatest. -/
theorem least_mirror {v : Nat} {xs : List Nat} (hf : ∀ x ∈ xs, x < 18446744073709551616) (h : Least v (xs.map ng)) : Greatest (ng v) xs := by
  refine ⟨ng_fits v h.fits, fun ⟨x, hx, hn⟩ => ?_, fun hall => ?_⟩
  · rw [ng_nan]
    exact h.nan ⟨ng x, List.mem_map_of_mem hx, by rw [ng_nan]; exact hn⟩
  · obtain ⟨h1, ⟨z, hz, ez⟩, h3⟩ := h.num (fun y hy => by
      obtain ⟨x, hx, rfl⟩ := List.mem_map.1 hy
      rw [ng_nan]; exact hall x hx)
    refine ⟨by rw [ng_nan]; exact h1, ?_, fun x hx => ?_⟩
    · obtain ⟨x, hx, rfl⟩ := List.mem_map.1 hz
      rw [ng_okey x (hf x hx)] at ez
      exact ⟨x, hx, by rw [ng_okey v h.fits]; omega⟩
    · have := h3 (ng x) (List.mem_map_of_mem hx)
      rw [ng_okey x (hf x hx)] at this
      rw [ng_okey v h.fits]; omega

/-! ### write -/
/-- the rung that a number is written to. -/
def wr (mag : Nat) (place : Int) : Nat :=
  if mag = 0 then 0 else
    min ((max (place + mag.log2 - 52) (-1074) - (-1074)).toNat * 4503599627370496 + Toward.even.cut false (mag <<< (place - max (place + mag.log2 - 52) (-1074)).toNat) (max (place + mag.log2 - 52) (-1074) - place).toNat) 9218868437227405312
theorem wr_le (mag : Nat) (place : Int) : wr mag place ≤ 9218868437227405312 := by
  unfold wr; split <;> omega
theorem cut_even (s : Bool) (n d : Nat) : Toward.even.cut s n d = Toward.even.cut false n d := rfl
theorem write_number (s : Bool) (mag : Nat) (place : Int) : double.write (.number s mag place) = double.word s (wr mag place) := by
  show double.nearest s mag place = _
  unfold Format.nearest wr
  simp only [dBin, dInf, dPlace]
  rw [cut_even]
  by_cases h : mag = 0
  · simp [h]
  · rw [if_neg h, if_neg h]; rfl
theorem write_inf (s : Bool) : double.write (.infinity s) = double.word s 9218868437227405312 := by
  show double.word s double.infRung = _; rw [dInf]

/-! ### the sum's and the quotient's relation -/
def AddR (x y r : Nat) : Prop := r < 18446744073709551616 ∧ (match double.add x y with | some q => r = q | none => isN r = true)
def DivR (x y r : Nat) : Prop := r < 18446744073709551616 ∧ (match double.div x y with | some q => r = q | none => isN r = true)
/-- v mirrors u: both NaN; or one is minus the other; or both are zeros. -/
def Mir (u v : Nat) : Prop := (isN u = true ∧ isN v = true) ∨ (isN u = false ∧ isN v = false ∧ (v = ng u ∨ (rung u = 0 ∧ rung v = 0)))

theorem add_nan (x y : Nat) (h : isN x = true ∨ isN y = true) : double.add x y = none := by
  unfold Format.add
  rcases h with h | h
  · obtain ⟨s, t, e⟩ := read_nan x h
    rw [e]; simp [Datum.sum]
  · obtain ⟨s, t, e⟩ := read_nan y h
    rw [e]; cases double.read x <;> simp [Datum.sum]
theorem div_nan (x y : Nat) (h : isN x = true) : double.div x y = none := by
  unfold Format.div
  obtain ⟨s, t, e⟩ := read_nan x h
  rw [e]; simp [Datum.quotient]

/-- two written numbers of one size: opposite, or both zero. -/
theorem mir_words (s s' : Bool) (mag : Nat) (place : Int) (h : s' = !s ∨ mag = 0) : Mir (double.write (.number s mag place)) (double.write (.number s' mag place)) := by
  have hw := wr_le mag place
  have hlt : wr mag place < 9223372036854775808 := by omega
  rw [write_number, write_number]
  have a := sgn_word s _ hlt
  have b := sgn_word s' _ hlt
  right
  refine ⟨by unfold isN; rw [a.2.1]; simp; omega, by unfold isN; rw [b.2.1]; simp; omega, ?_⟩
  rcases h with h | h
  · left; rw [h, ng_word s _ hlt]
  · right
    have h0 : wr mag place = 0 := by unfold wr; rw [if_pos h]
    rw [a.2.1, b.2.1, h0]; exact ⟨rfl, rfl⟩
theorem mir_inf (s s' : Bool) (h : s' = !s) : Mir (double.write (.infinity s)) (double.write (.infinity s')) := by
  rw [write_inf, write_inf]
  have a := sgn_word s 9218868437227405312 (by omega)
  have b := sgn_word s' 9218868437227405312 (by omega)
  right
  exact ⟨by unfold isN; rw [a.2.1]; simp, by unfold isN; rw [b.2.1]; simp, .inl (by rw [h, ng_word s _ (by omega)])⟩

/-- a word and its mirror, read. -/
theorem mir_forms {u v : Nat} (hu : u < 18446744073709551616) (h : isN u = false) (hm : v = ng u ∨ (rung u = 0 ∧ rung v = 0)) :
    (∃ s s' m a, double.read u = .number s m (-1074 + (a : Nat)) ∧ double.read v = .number s' m (-1074 + (a : Nat)) ∧ (s' = !s ∨ m = 0)) ∨ (∃ s, double.read u = .infinity s ∧ double.read v = .infinity (!s)) := by
  rcases hm with rfl | ⟨h1, h2⟩
  · rcases forms u h with ⟨m, a, e, k, _, _, _, hr⟩ | ⟨e, k, hr⟩
    · left
      refine ⟨sgn u, !sgn u, m, a, e, ?_, .inl rfl⟩
      rw [read_eq] at e ⊢
      rw [ng_rung, ng_sgn u hu]
      split at e
      · rename_i h1
        rw [if_pos h1]
        simp only [Datum.number.injEq] at e ⊢
        exact ⟨trivial, e.2.1, e.2.2⟩
      · rename_i h1
        split at e
        · rename_i h2
          rw [if_neg h1, if_pos h2]
          simp only [Datum.number.injEq] at e ⊢
          exact ⟨trivial, e.2.1, e.2.2⟩
        · split at e <;> cases e
    · right
      refine ⟨sgn u, e, ?_⟩
      rw [read_eq, ng_rung, ng_sgn u hu, hr]
      rfl
  · left
    refine ⟨sgn u, sgn v, 0, 0, ?_, ?_, .inr rfl⟩
    · rw [read_eq, h1]; rfl
    · rw [read_eq, h2]; rfl

theorem signed_mir (s s' : Bool) (m u : Nat) (h : s' = !s ∨ m = 0) : signed s' m u = -signed s m u := by
  rcases h with rfl | rfl
  · exact signed_not s m u
  · rw [signed_abs, signed_abs]; cases s <;> cases s' <;> simp

theorem add_mir {u v x r r' : Nat} (hu : u < 18446744073709551616) (hx : x < 18446744073709551616) (h : Mir u v) (h1 : AddR u x r) (h2 : AddR v (ng x) r') : Mir r r' := by
  by_cases hn : isN u = true ∨ isN x = true
  · have hv : isN v = true ∨ isN (ng x) = true := by
      rcases hn with hn | hn
      · rcases h with ⟨_, h⟩ | ⟨h, _⟩
        · exact .inl h
        · rw [hn] at h; cases h
      · exact .inr (by rw [ng_nan]; exact hn)
    left
    have a := h1.2
    have b := h2.2
    rw [add_nan _ _ hn] at a
    rw [add_nan _ _ hv] at b
    exact ⟨a, b⟩
  · have hu0 : isN u = false := by cases e : isN u; rfl; exact absurd (.inl e) hn
    have hx0 : isN x = false := by cases e : isN x; rfl; exact absurd (.inr e) hn
    obtain ⟨hvn, hm⟩ : isN v = false ∧ (v = ng u ∨ (rung u = 0 ∧ rung v = 0)) := by
      rcases h with ⟨h, _⟩ | ⟨_, h, k⟩
      · rw [hu0] at h; cases h
      · exact ⟨h, k⟩
    have a := h1.2
    have b := h2.2
    unfold Format.add at a b
    rcases mir_forms hu hu0 hm with ⟨s, s', m, i, e1, e2, hs⟩ | ⟨s, e1, e2⟩ <;> rcases mir_forms hx hx0 (.inl rfl) with ⟨t, t', n, j, f1, f2, ht⟩ | ⟨t, f1, f2⟩
    · rw [e1, f1] at a
      rw [e2, f2] at b
      simp only [Datum.sum, Option.map_some] at a b
      rw [a, b]
      rw [signed_mir s s' m _ hs, signed_mir t t' n _ ht]
      generalize signed s m (-1074 + (i : Int) - min (-1074 + (i : Int)) (-1074 + (j : Int))).toNat = A
      generalize signed t n (-1074 + (j : Int) - min (-1074 + (i : Int)) (-1074 + (j : Int))).toNat = B
      have e : (-A + -B).natAbs = (A + B).natAbs := by omega
      rw [e]
      apply mir_words
      by_cases h0 : A + B = 0
      · right; rw [h0]; rfl
      · left
        rw [if_neg h0, if_neg (by omega)]
        by_cases h5 : A + B < 0
        · have h6 : ¬ -A + -B < 0 := by omega
          simp [h5, h6]
        · have h6 : -A + -B < 0 := by omega
          simp [h5, h6]
    · rw [e1, f1] at a
      rw [e2, f2] at b
      simp only [Datum.sum, Option.map_some] at a b
      rw [a, b]; exact mir_inf _ _ rfl
    · rw [e1, f1] at a
      rw [e2, f2] at b
      simp only [Datum.sum, Option.map_some] at a b
      rw [a, b]; exact mir_inf _ _ rfl
    · rw [e1, f1] at a
      rw [e2, f2] at b
      simp only [Datum.sum] at a b
      by_cases h5 : s = t
      · rw [if_pos h5] at a
        rw [if_pos (by rw [h5])] at b
        simp only [Option.map_some] at a b
        rw [a, b]; exact mir_inf _ _ rfl
      · rw [if_neg h5] at a
        rw [if_neg (by intro h6; apply h5; cases s <;> cases t <;> simp_all)] at b
        exact .inl ⟨a, b⟩

theorem div_mir {u v n r r' : Nat} (hu : u < 18446744073709551616) (h : Mir u v) {nn : Nat} {p : Int} (hn : double.read n = .number false nn p) (hnn : nn ≠ 0) (h1 : DivR u n r) (h2 : DivR v n r') : Mir r r' := by
  by_cases hnan : isN u = true
  · have hv : isN v = true := by
      rcases h with ⟨_, h⟩ | ⟨h, _⟩
      · exact h
      · rw [hnan] at h; cases h
    have a := h1.2
    have b := h2.2
    rw [div_nan _ _ hnan] at a
    rw [div_nan _ _ hv] at b
    exact .inl ⟨a, b⟩
  · have hu0 : isN u = false := by simpa using hnan
    obtain ⟨hvn, hm⟩ : isN v = false ∧ (v = ng u ∨ (rung u = 0 ∧ rung v = 0)) := by
      rcases h with ⟨h, _⟩ | ⟨_, h, k⟩
      · rw [hu0] at h; cases h
      · exact ⟨h, k⟩
    have a := h1.2
    have b := h2.2
    unfold Format.div at a b
    rw [hn] at a b
    rcases mir_forms hu hu0 hm with ⟨s, s', m, i, e1, e2, hs⟩ | ⟨s, e1, e2⟩
    · rw [e1] at a
      rw [e2] at b
      simp only [Datum.quotient, if_neg hnn, Option.map_some, Bool.xor_false] at a b
      rw [a, b]
      apply mir_words
      rcases hs with hs | hs
      · exact .inl hs
      · right; rw [hs]; simp
    · rw [e1] at a
      rw [e2] at b
      simp only [Datum.quotient, Option.map_some, Bool.xor_false] at a b
      rw [a, b]; exact mir_inf _ _ rfl

/-- the sum of the first k words, in the order of the text, from +0 on. -/
def SumTo (xs : List Nat) : Nat → Nat → Prop
  | 0, m => m = 0
  | k + 1, m => ∃ m', SumTo xs k m' ∧ AddR m' (xs.getD k 0) m
theorem sumTo_fits (xs : List Nat) : ∀ k m, SumTo xs k m → m < 18446744073709551616
  | 0, m, h => by rw [h]; decide
  | k + 1, m, ⟨_, _, h⟩ => h.1
theorem sum_mir (xs : List Nat) (hf : ∀ x ∈ xs, x < 18446744073709551616) : ∀ k u v, k ≤ xs.length → SumTo xs k u → SumTo (xs.map ng) k v → Mir u v
  | 0, u, v, _, h1, h2 => by
    rw [h1, h2]
    exact .inr ⟨by decide, by decide, .inr ⟨rfl, rfl⟩⟩
  | k + 1, u, v, hk, ⟨u', a1, a2⟩, ⟨v', b1, b2⟩ => by
    have ih := sum_mir xs hf k u' v' (by omega) a1 b1
    have e1 : xs.getD k 0 = xs[k] := by simp [List.getD_eq_getElem?_getD, show k < xs.length by omega]
    have e2 : (xs.map ng).getD k 0 = ng xs[k] := by simp [List.getD_eq_getElem?_getD, show k < xs.length by omega]
    rw [e1] at a2
    rw [e2] at b2
    exact add_mir (sumTo_fits xs k u' a1) (hf _ (List.getElem_mem _)) ih a2 b2

end Go.Proofs.Qxb6629104a
