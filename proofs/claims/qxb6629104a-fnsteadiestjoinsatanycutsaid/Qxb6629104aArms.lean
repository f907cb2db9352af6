/-
  ARMS for float +, / and min: what each answers, the NaN draws told.
-/
import Derived.Test.Qxb6629104aSteps
import Derived.Laws.ResultCell
namespace Go.Proofs.Qxb6629104a
open Go.RowKit
set_option linter.unusedVariables false
set_option linter.unusedSimpArgs false

/-- what the tape answers for a NaN is a NaN. -/
theorem cut_nan (t : Nat) : (t % 2) * 2 ^ 63 + 0x7ff0000000000000 + 1 + (t / 2) % (2 ^ 52 - 1) < 18446744073709551616 ∧ isN ((t % 2) * 2 ^ 63 + 0x7ff0000000000000 + 1 + (t / 2) % (2 ^ 52 - 1)) = true := by
  unfold isN rung
  have e63 : (2 : Nat) ^ 63 = 9223372036854775808 := by decide
  have e52 : (2 : Nat) ^ 52 - 1 = 4503599627370495 := by decide
  rw [e63, e52]
  have hr : t / 2 % 4503599627370495 < 4503599627370495 := Nat.mod_lt _ (by decide)
  generalize t / 2 % 4503599627370495 = r at *
  obtain h | h : t % 2 = 0 ∨ t % 2 = 1 := by omega
  · rw [h]
    refine ⟨by omega, ?_⟩
    simp
    omega
  · rw [h]
    refine ⟨by omega, ?_⟩
    simp
    omega

theorem cut_bits (x y t : Nat) : Question.cut (.nanBits .f64 x y) t < 18446744073709551616 ∧ isN (Question.cut (.nanBits .f64 x y) t) = true := cut_nan t
theorem cut_min (x y t : Nat) : Question.cut (.nanMinMax .f64 false x y) t < 18446744073709551616 ∧ isN (Question.cut (.nanMinMax .f64 false x y) t) = true := cut_nan t
attribute [local irreducible] Question.cut
theorem run_add_none (x y : Nat) (w : World) (hf : FloatKind.f64.format.add x y = none) : (binOp .add 24 (.float .f64 x) (.float .f64 y)).run Try.prog w = .ok (.float .f64 (Question.cut (.nanBits .f64 x y) (w.tape w.drawn (.nanBits .f64 x y)))) w.drew := by
  simp [binOp, Op.floatArith, hf, run_choose_drew, Question.forced]
theorem run_quo_none (x y : Nat) (w : World) (hf : FloatKind.f64.format.div x y = none) : (binOp .quo 24 (.float .f64 x) (.float .f64 y)).run Try.prog w = .ok (.float .f64 (Question.cut (.nanBits .f64 x y) (w.tape w.drawn (.nanBits .f64 x y)))) w.drew := by
  simp [binOp, Op.floatArith, hf, run_choose_drew, Question.forced]
theorem run_min_none (x y : Nat) (ty : TypeId) (w : World) (ho : FloatKind.f64.format.order x y = none) : (Builtin.min_ #[24, 24] ty #[.float .f64 x, .float .f64 y]).run Try.prog w = .ok (.float .f64 (Question.cut (.nanMinMax .f64 false x y) (w.tape w.drawn (.nanMinMax .f64 false x y)))) w.drew := by
  simp [Builtin.min_, Builtin.min2, ho, run_choose_drew, Question.forced]
theorem run_min_some (x y : Nat) (ty : TypeId) (w : World) (c : Ordering) (q : Nat) (ho : FloatKind.f64.format.order x y = some c) (hq : q = match c with | .lt => x | .gt => y | .eq => if (FloatKind.f64.decode x).neg then x else y) : (Builtin.min_ #[24, 24] ty #[.float .f64 x, .float .f64 y]).run Try.prog w = .ok (.float .f64 q) w := by
  subst hq
  cases c <;> simp [Builtin.min_, Builtin.min2, ho]
theorem drewN_zero' (w : World) : w = w.drewN 0 := rfl
theorem drewN_one' (w : World) : w.drew = w.drewN 1 := rfl
theorem run_fadd (x y : Nat) (w : World) : ∃ q n, (binOp .add 24 (.float .f64 x) (.float .f64 y)).run Try.prog w = .ok (.float .f64 q) (w.drewN n) ∧ AddR x y q := by
  cases hq : Ieee.double.add x y with
  | some q =>
    refine ⟨q, 0, run_float_arith w .add 24 .f64 x y q hq, Ieee.Format.add_lt _ hq, by rw [hq]⟩
  | none =>
    have h := run_add_none x y w hq
    obtain ⟨c1, c2⟩ := cut_bits x y (w.tape w.drawn (.nanBits .f64 x y))
    generalize Question.cut (.nanBits .f64 x y) (w.tape w.drawn (.nanBits .f64 x y)) = q at h c1 c2
    exact ⟨q, 1, h, c1, by rw [hq]; exact c2⟩
theorem run_fdiv (x y : Nat) (w : World) : ∃ q n, (binOp .quo 24 (.float .f64 x) (.float .f64 y)).run Try.prog w = .ok (.float .f64 q) (w.drewN n) ∧ DivR x y q := by
  cases hq : Ieee.double.div x y with
  | some q =>
    refine ⟨q, 0, run_float_arith w .quo 24 .f64 x y q hq, Ieee.Format.div_lt _ hq, by rw [hq]⟩
  | none =>
    have h := run_quo_none x y w hq
    obtain ⟨c1, c2⟩ := cut_bits x y (w.tape w.drawn (.nanBits .f64 x y))
    generalize Question.cut (.nanBits .f64 x y) (w.tape w.drawn (.nanBits .f64 x y)) = q at h c1 c2
    exact ⟨q, 1, h, c1, by rw [hq]; exact c2⟩
theorem decode_neg (x : Nat) (h : isN x = false) : (FloatKind.f64.decode x).neg = sgn x := by
  show (Ieee.double.read x).neg = sgn x
  rcases forms x h with ⟨m, a, e, _⟩ | ⟨e, _⟩ <;> rw [e] <;> rfl
theorem run_fmin (x y : Nat) (ty : TypeId) (hx : x < 18446744073709551616) (hy : y < 18446744073709551616) (w : World) : ∃ q n, (Builtin.min_ #[24, 24] ty #[.float .f64 x, .float .f64 y]).run Try.prog w = .ok (.float .f64 q) (w.drewN n) ∧ MinR x y q := by
  by_cases hn : isN x = true ∨ isN y = true
  · have ho : FloatKind.f64.format.order x y = none := order_nan x y hn
    have h := run_min_none x y ty w ho
    obtain ⟨c1, c2⟩ := cut_min x y (w.tape w.drawn (.nanMinMax .f64 false x y))
    generalize Question.cut (.nanMinMax .f64 false x y) (w.tape w.drawn (.nanMinMax .f64 false x y)) = q at h c1 c2
    refine ⟨q, 1, h, c1, fun _ => c2, fun h1 h2 => ?_⟩
    rcases hn with h | h
    · rw [h1] at h; cases h
    · rw [h2] at h; cases h
  · have h1 : isN x = false := by cases e : isN x; rfl; exact absurd (.inl e) hn
    have h2 : isN y = false := by cases e : isN y; rfl; exact absurd (.inr e) hn
    have ho : FloatKind.f64.format.order x y = some (compare (key x) (key y)) := order_key x y h1 h2
    rw [cmp_eq] at ho
    have l1 := okey_lt x y h1 h2
    have l2 := okey_lt y x h2 h1
    have le := okey_eq x y h1 h2
    have nn : isN x = true ∨ isN y = true → isN x = true := fun h => absurd h hn
    have nn' : isN x = true ∨ isN y = true → isN y = true := fun h => absurd h hn
    by_cases g1 : key x < key y
    · rw [if_pos g1] at ho
      have := l1.2 (.inl g1)
      exact ⟨x, 0, run_min_some x y ty w _ _ ho rfl, hx, nn, fun _ _ => ⟨.inl rfl, by omega, by omega⟩⟩
    · rw [if_neg g1] at ho
      by_cases g2 : key x = key y
      · rw [if_pos g2] at ho
        have hd := decode_neg x h1
        cases hs : sgn x
        · rw [hs] at hd
          refine ⟨y, 0, run_min_some x y ty w _ _ ho (by simp only [hd]; rfl), hy, nn', fun _ _ => ⟨.inr rfl, ?_, Int.le_refl _⟩⟩
          apply Classical.byContradiction
          intro hc
          rcases l1.1 (by omega) with h | ⟨_, _, h, _⟩
          · exact g1 h
          · rw [hs] at h; cases h
        · rw [hs] at hd
          refine ⟨x, 0, run_min_some x y ty w _ _ ho (by simp only [hd]; rfl), hx, nn, fun _ _ => ⟨.inl rfl, Int.le_refl _, ?_⟩⟩
          apply Classical.byContradiction
          intro hc
          rcases l2.1 (by omega) with h | ⟨_, _, _, h⟩
          · omega
          · rw [hs] at h; cases h
      · rw [if_neg g2] at ho
        have := l2.2 (.inl (by omega))
        exact ⟨y, 0, run_min_some x y ty w _ _ ho rfl, hy, nn', fun _ _ => ⟨.inr rfl, by omega, by omega⟩⟩

section
variable {ops : Array Oper} {rest : List Oper} {o : Oper} {a : Act} {w : World} {Q : Exit → Act → World → Prop}
/-- 'x + y' on floats. -/
theorem wpList_fadd (hgd : o.guard = none) (l r : Operand) (ho : o.op = .binOp .add 24 l r 24) (x y : Nat) (hx : a.eval l = .float .f64 x) (hy : a.eval r = .float .f64 y)
    (h : ∀ q w1, Hid (∃ n, w1 = w.drewN n) → AddR x y q → wpList Try.prog ops Q rest (a.put o.dst (.float .f64 q)) w1) : wpList Try.prog ops Q (o :: rest) a w := by
  refine wpList_plain hgd fun K hK => ?_
  obtain ⟨q, n, hrun, hq⟩ := run_fadd x y w
  unfold Oper.wp
  simp [execOp, ho, hx, hy, eqGuard, hrun, Result.andThen]
  exact hK _ _ (h q _ ⟨n, rfl⟩ hq)
/-- 'x / y' on floats. -/
theorem wpList_fdiv (hgd : o.guard = none) (l r : Operand) (ho : o.op = .binOp .quo 24 l r 24) (x y : Nat) (hx : a.eval l = .float .f64 x) (hy : a.eval r = .float .f64 y)
    (h : ∀ q w1, Hid (∃ n, w1 = w.drewN n) → DivR x y q → wpList Try.prog ops Q rest (a.put o.dst (.float .f64 q)) w1) : wpList Try.prog ops Q (o :: rest) a w := by
  refine wpList_plain hgd fun K hK => ?_
  obtain ⟨q, n, hrun, hq⟩ := run_fdiv x y w
  unfold Oper.wp
  simp [execOp, ho, hx, hy, eqGuard, hrun, Result.andThen]
  exact hK _ _ (h q _ ⟨n, rfl⟩ hq)
/-- 'min(x, y)' on floats. -/
theorem wpList_fmin (hgd : o.guard = none) (l r : Operand) (ho : o.op = .call { callee := .builtin .min, args := #[l, r], argTypes := #[24, 24] }) (x y : Nat) (hx : a.eval l = .float .f64 x) (hy : a.eval r = .float .f64 y) (hx64 : x < 18446744073709551616) (hy64 : y < 18446744073709551616)
    (h : ∀ q w1, Hid (∃ n, w1 = w.drewN n) → MinR x y q → wpList Try.prog ops Q rest (a.put o.dst (.float .f64 q)) w1) : wpList Try.prog ops Q (o :: rest) a w := by
  refine wpList_plain hgd fun K hK => ?_
  obtain ⟨q, n, hrun, hq⟩ := run_fmin x y o.type hx64 hy64 w
  unfold Oper.wp
  simp [execOp, ho, resolve, invoke, builtin, hx, hy, hrun, Result.andThen]
  exact hK _ _ (h q _ ⟨n, rfl⟩ hq)
end
end Go.Proofs.Qxb6629104a
