/-
  PLAIN: an integer as a float64; the two means.
-/
import Derived.Test.Qxb6629104aUp
namespace Go.Proofs.Qxb6629104a
open Ieee
set_option linter.unusedVariables false
set_option linter.unusedSimpArgs false

theorem log2_small (n : Nat) (h1 : 1 ≤ n) (h2 : n ≤ 1048576) : n.log2 ≤ 20 := by
  have := Nat.log2_self_le (n := n) (by omega)
  apply Classical.byContradiction
  intro hc
  have h : 2 ^ 21 ≤ 2 ^ n.log2 := Nat.pow_le_pow_right (by decide) (by omega)
  have e : 2 ^ 21 = 2097152 := by decide
  omega
theorem shl_small (n L Y : Nat) (h1 : 1 ≤ n) (hL : L ≤ 20) (hlt : n < 2 ^ (L + 1)) (hY : Y = n * 2 ^ (52 - L)) : 0 < Y ∧ Y < 2 ^ 53 := by
  have e : 2 ^ 53 = 2 ^ (L + 1) * 2 ^ (52 - L) := by rw [← Nat.pow_add]; congr 1; omega
  rw [e, hY]
  exact ⟨Nat.mul_pos h1 (Nat.two_pow_pos _), Nat.mul_lt_mul_of_pos_right hlt (Nat.two_pow_pos _)⟩
theorem wr_arith (L X W : Nat) (hL : L ≤ 20) (h0 : 0 < X) (hX : X < 9007199254740992) (e : W = min ((L + 1022) * 4503599627370496 + X) 9218868437227405312) : 0 < W ∧ W < 9218868437227405312 := by omega
theorem cut_zero (X Y : Nat) (h : X ≠ 0) (hY : Y = X) : Toward.even.cut false Y 0 = X := by
  have := cut_exact X 0 h
  rw [Nat.pow_zero, Nat.mul_one] at this
  rw [hY]; exact this
theorem wr_form (n L X : Nat) (h0 : n ≠ 0) (hl : n.log2 = L) (hL : L ≤ 20) (hX : n <<< (52 - L) = X) (hX0 : X ≠ 0) : wr n 0 = min ((L + 1022) * 4503599627370496 + X) 9218868437227405312 := by
  have e1 : ((L : Int) - 52 - (-1074)).toNat = L + 1022 := by omega
  have e2 : (0 - ((L : Int) - 52)).toNat = 52 - L := by omega
  have e3 : ((L : Int) - 52 - 0).toNat = 0 := by omega
  have e := wr_eq n 0 h0 ((L : Int) - 52) (by rw [hl]; omega)
  rw [e1, e2, e3, cut_zero X _ hX0 hX] at e
  exact e
theorem wr_int (n : Nat) (h1 : 1 ≤ n) (h2 : n ≤ 1048576) : 0 < wr n 0 ∧ wr n 0 < 9218868437227405312 := by
  have hl := log2_small n h1 h2
  obtain ⟨p, q⟩ := shl_small n n.log2 (n <<< (52 - n.log2)) h1 hl (Nat.lt_log2_self (n := n)) (Nat.shiftLeft_eq _ _)
  exact wr_arith n.log2 _ _ hl p (Nat.lt_of_lt_of_le q (Nat.le_of_eq (by decide))) (wr_form n _ _ (by omega) rfl hl rfl (by omega))
theorem read_int (n : Nat) (h1 : 1 ≤ n) (h2 : n ≤ 1048576) : ∃ nn p, double.read (floatOfInt .f64 (n : Int)) = .number false nn p ∧ nn ≠ 0 := by
  have e : floatOfInt .f64 (n : Int) = double.word false (wr n 0) := by
    have h := write_number false n 0
    rw [← h]
    show double.write (.number (decide ((n : Int) < 0)) (n : Int).natAbs 0) = _
    have d : decide ((n : Int) < 0) = false := decide_eq_false (by omega)
    rw [d, Int.natAbs_natCast]
  obtain ⟨w0, w1⟩ := wr_int n h1 h2
  obtain ⟨s1, s2, s3⟩ := sgn_word false (wr n 0) (by omega)
  rw [e]
  have hn : isN (double.word false (wr n 0)) = false := by
    unfold isN; rw [s2]; exact decide_eq_false (by omega)
  rcases forms _ hn with ⟨m, a, hr, _, _, _, h3, h4⟩ | ⟨hr, h4⟩
  · rw [s1] at hr
    exact ⟨m, _, hr, nonzero_form m a _ h3 h4 (by rw [s2]; omega)⟩
  · exfalso
    rw [s2] at h4
    exact absurd h4.2 (by omega)
theorem float_one : floatOfInt .f64 (1 : Int) = one := by decide +kernel
theorem means_mir {xs : List Nat} {s m s' m' : Nat} (hf : ∀ x ∈ xs, x < 18446744073709551616) (h1 : 1 ≤ xs.length) (h2 : xs.length ≤ 1048576) (hu : UpR xs s m) (hv : UpR (xs.map ng) s' m') : Mir m m' := by
  obtain ⟨_, t, ht, hd⟩ := hu
  obtain ⟨_, t', ht', hd'⟩ := hv
  rw [List.length_map] at ht' hd'
  obtain ⟨nn, p, hr, hnn⟩ := read_int _ h1 h2
  exact div_mir (sumTo_fits _ _ _ ht) (sum_mir xs hf _ _ _ (Nat.le_refl _) ht ht') hr hnn hd hd'
/-- what the last test of the mirror law reads. -/
theorem mir_test {u v : Nat} (hu : u < 18446744073709551616) (h : Mir u v) : (isN u = true ∧ isN v = true) ∨ (isN u = false ∧ isN v = false ∧ key v = key (ng u)) := by
  rcases h with ⟨a, b⟩ | ⟨a, b, rfl | ⟨c, d⟩⟩
  · exact .inl ⟨a, b⟩
  · exact .inr ⟨a, b, rfl⟩
  · refine .inr ⟨a, b, ?_⟩
    rw [(key_zero v b).2 d, ng_key u hu, (key_zero u a).2 c]
    rfl
end Go.Proofs.Qxb6629104a
