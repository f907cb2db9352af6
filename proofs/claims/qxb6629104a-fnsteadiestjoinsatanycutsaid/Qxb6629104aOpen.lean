/-
  A slice of floats that came in, opened.
-/
import Derived.Test.Qxb6629104aBlocks
import Derived.ProofKit
import Derived.OpenShut
import Derived.ShutString
import Derived.ChangeOld
import Derived.Deep.Slices
namespace Go.Proofs.Qxb6629104a
open Go.ChangeShapes Go.WideShapes Go.ChangeAt Go.RowKit
open Go.Deep (open_slice1)
set_option linter.unusedVariables false
set_option linter.unusedSimpArgs false

theorem own : ownKnob Try.prog.godebug = none := by kernel_rfl
theorem laidOut : laidOutB Try.prog = true := by kernel_rfl
theorem cells24 : Try.prog.cellsOf 24 = 1 := by kernel_rfl

theorem trod_float {H : Type} {enc : TypeId × Value → H} {P : Program} {w : World} {base fuel : Nat} {spare : Nat → Bool} {held : Bool} {t : TypeId} {cs : List Value} {x : DataW H × List MemPlace} {k : FloatKind} (ht : P.underlying t = some (.float k)) (h : DataW.trod enc P w base spare held fuel t cs = some x) : ∃ n, cs = [.float k n] ∧ (Lit.float k n).wf = true := by
  cases fuel with
  | zero => simp [DataW.trod] at h
  | succ n =>
    unfold DataW.trod at h
    rw [ht] at h
    split at h <;> simp_all
theorem float_fits {n : Nat} (h : (Lit.float .f64 n).wf = true) : n < 18446744073709551616 := by
  have e : (2 : Nat) ^ 64 = 18446744073709551616 := by decide
  have : n < 2 ^ 64 := by simpa [Lit.wf] using h
  omega

theorem lt_cell {w : World} {a : Addr} {v : Value} (h : w.cell? a = some v) : a.block < w.heap.size := by
  apply Decidable.byContradiction
  intro hn
  have hb : w.heap[a.block]? = none := Array.getElem?_eq_none (by omega)
  simp [World.cell?, hb] at h

theorem choose_list {α : Type} (d : α) (p : Nat → α → Prop) : ∀ n, (∀ i, i < n → ∃ x, p i x) → ∃ l : List α, l.length = n ∧ ∀ i, i < n → p i (l.getD i d)
  | 0, _ => ⟨[], rfl, fun i hi => by omega⟩
  | n + 1, h => by
    obtain ⟨l, hl, hp⟩ := choose_list d p n (fun i hi => h i (by omega))
    obtain ⟨x, hx⟩ := h n (by omega)
    refine ⟨l ++ [x], by simp [hl], fun i hi => ?_⟩
    by_cases e : i = n
    · subst e
      have : (l ++ [x]).getD i d = x := by simp [List.getD_eq_getElem?_getD, ← hl]
      rw [this]; exact hx
    · have h1 : i < l.length := by omega
      have : (l ++ [x]).getD i d = l.getD i d := by simp [List.getD_eq_getElem?_getD, List.getElem?_append, h1]
      rw [this]; exact hp i (by omega)

theorem open_floats {H : Type} {enc : TypeId × Value → H} {W : World} {a : Option Addr} {len cap : Nat} {d : DataW H} {p : List MemPlace}
    (h : DataW.Trod enc Try.prog W 0 (fun _ => true) true 22 (.slice a len cap) d p) : ∃ xs, FRow W a len xs ∧ len < 9223372036854775808 := by
  obtain ⟨fuel, hf⟩ := h
  rcases open_slice1 Try.underlying22 cells24 hf with ⟨hcs, _⟩ | ⟨x, l, c, m, n, V, D, Pl, hcs, _, hl, hm, hmm, _, hx⟩
  · simp [Value.cells] at hcs
    obtain ⟨rfl, rfl, rfl⟩ := hcs
    exact ⟨[], ⟨rfl, (fun x hx => by cases hx), fun h => by omega⟩, by decide⟩
  · simp [Value.cells] at hcs
    obtain ⟨rfl, rfl, rfl⟩ := hcs
    simp only [if_true] at hmm
    subst hmm
    have hcap : len < 9223372036854775808 := by unfold maxLen at hm; omega
    obtain ⟨b, off, spot⟩ := x
    by_cases h0 : len = 0
    · subst h0
      exact ⟨[], ⟨rfl, (fun x hx => by cases hx), fun h => by omega⟩, by decide⟩
    have hspot : spot = none := by
      obtain ⟨h1, h2⟩ := hx 0 (by omega)
      simpa [Addr.add] using World.cell?_spot h1
    subst hspot
    have key : ∀ i, i < len → ∃ q, W.cell? ⟨b, off + i, none⟩ = some (.float .f64 q) ∧ q < 18446744073709551616 := by
      intro i hi
      obtain ⟨h1, h2⟩ := hx i (by omega)
      obtain ⟨q, e0, e1⟩ := trod_float Try.underlying24 h2
      simp only [List.cons.injEq, and_true] at e0
      rw [add_plain, e0] at h1
      exact ⟨q, h1, float_fits e1⟩
    obtain ⟨xs, hpl, hps⟩ := choose_list 0 (fun i q => W.cell? ⟨b, off + i, none⟩ = some (.float .f64 q) ∧ q < 18446744073709551616) len key
    refine ⟨xs, ⟨hpl, fun x hx => ?_, fun hp => ⟨b, off, rfl, lt_cell (hps 0 hp).1, fun i hi => (hps i hi).1⟩⟩, hcap⟩
    obtain ⟨i, hi, rfl⟩ := List.getElem_of_mem hx
    have := (hps i (by omega)).2
    rw [List.getD_eq_getElem?_getD, List.getElem?_eq_getElem hi] at this
    exact this
end Go.Proofs.Qxb6629104a
