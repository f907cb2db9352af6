/-
  A slice of arguments that came in, opened.
-/
import Derived.Test.Qxb6629080aNames
import Derived.ProofKit
import Derived.OpenShut
import Derived.ShutString
import Derived.ChangeOld
import Derived.Deep.Slices
namespace Go.Proofs.Qxb6629080a
open Go.ChangeShapes Go.WideShapes Go.ChangeAt Go.RowKit
open Go.Deep (open_slice)
set_option linter.unusedVariables false
set_option linter.unusedSimpArgs false

theorem own : ownKnob Try.prog.godebug = none := by kernel_rfl
theorem laidOut : laidOutB Try.prog = true := by kernel_rfl
theorem cells33 : Try.prog.cellsOf 33 = 6 := by kernel_rfl
theorem cells9 : Try.prog.cellsOf 9 = 1 := by kernel_rfl
theorem cells4 : Try.prog.cellsOf 4 = 1 := by kernel_rfl

theorem at_of_take {cs : List Value} {j : Nat} {v : Value} (h : (cs.drop j).take 1 = [v]) : cs[j]? = some v := by
  have := congrArg (fun l => l[0]?) h
  simpa [List.getElem?_take, List.getElem?_drop] using this

/-- One struct's six cells. -/
theorem open_par {H : Type} {enc : TypeId × Value → H} {W : World} {base n : Nat} {sp : Nat → Bool} {held : Bool} {cs : List Value} {x : DataW H × List MemPlace}
    (h : DataW.trod enc Try.prog W base sp held n 33 cs = some x) : ∃ p : Par, cs[0]? = some (.string p.name) ∧ cs[1]? = some (.string p.ty) ∧ cs[2]? = some (.bool p.req) ∧ cs[3]? = some (.bool p.paired) ∧ cs[4]? = some (.bool p.opt) ∧ cs[5]? = some (.bool p.framing) := by
  obtain ⟨xs, m, _, _, _, hl, hf⟩ := DataW.trod_struct Try.underlying33 h
  have hl6 : xs.length = 6 := by simpa using hl
  have t0 := hf 0 _ rfl
  have t1 := hf 1 _ rfl
  have t2 := hf 2 _ rfl
  have t3 := hf 3 _ rfl
  have t4 := hf 4 _ rfl
  have t5 := hf 5 _ rfl
  change DataW.trod enc Try.prog W base sp held m 9 ((cs.drop 0).take (Try.prog.cellsOf 9)) = xs[0]? at t0
  change DataW.trod enc Try.prog W base sp held m 9 ((cs.drop 1).take (Try.prog.cellsOf 9)) = xs[1]? at t1
  change DataW.trod enc Try.prog W base sp held m 4 ((cs.drop 2).take (Try.prog.cellsOf 4)) = xs[2]? at t2
  change DataW.trod enc Try.prog W base sp held m 4 ((cs.drop 3).take (Try.prog.cellsOf 4)) = xs[3]? at t3
  change DataW.trod enc Try.prog W base sp held m 4 ((cs.drop 4).take (Try.prog.cellsOf 4)) = xs[4]? at t4
  change DataW.trod enc Try.prog W base sp held m 4 ((cs.drop 5).take (Try.prog.cellsOf 4)) = xs[5]? at t5
  rw [cells9, List.getElem?_eq_getElem (by omega)] at t0 t1
  rw [cells4, List.getElem?_eq_getElem (by omega)] at t2 t3 t4 t5
  obtain ⟨s0, e0, _⟩ := DataW.trod_string Try.underlying9 t0
  obtain ⟨s1, e1, _⟩ := DataW.trod_string Try.underlying9 t1
  obtain ⟨s2, e2, _⟩ := DataW.trod_bool Try.underlying4 t2
  obtain ⟨s3, e3, _⟩ := DataW.trod_bool Try.underlying4 t3
  obtain ⟨s4, e4, _⟩ := DataW.trod_bool Try.underlying4 t4
  obtain ⟨s5, e5, _⟩ := DataW.trod_bool Try.underlying4 t5
  exact ⟨⟨s0, s1, s2, s3, s4, s5⟩, at_of_take e0, at_of_take e1, at_of_take e2, at_of_take e3, at_of_take e4, at_of_take e5⟩

theorem lt_cell {w : World} {a : Addr} {v : Value} (h : w.cell? a = some v) : a.block < w.heap.size := by
  apply Decidable.byContradiction
  intro hn
  have hb : w.heap[a.block]? = none := Array.getElem?_eq_none (by omega)
  simp [World.cell?, hb] at h

theorem choose_list {α : Type} (d : α) (p : Nat → α → Prop) : ∀ n, (∀ i, i < n → ∃ x, p i x) → ∃ l : List α, l.length = n ∧ ∀ i, i < n → p i (l.getD i d)
  | 0, _ => ⟨[], rfl, fun i hi => by omega⟩
  | n + 1, h => by
    obtain ⟨l, hl, hp⟩ := choose_list d p n (fun i hi => h i (by omega))
    obtain ⟨x, hx⟩ := h n (by omega)
    refine ⟨l ++ [x], by simp [hl], fun i hi => ?_⟩
    by_cases e : i = n
    · subst e
      have : (l ++ [x]).getD i d = x := by simp [List.getD_eq_getElem?_getD, ← hl]
      rw [this]; exact hx
    · have h1 : i < l.length := by omega
      have : (l ++ [x]).getD i d = l.getD i d := by simp [List.getD_eq_getElem?_getD, List.getElem?_append, h1]
      rw [this]; exact hp i (by omega)

theorem open_pars {H : Type} {enc : TypeId × Value → H} {W : World} {a : Option Addr} {len cap : Nat} {d : DataW H} {p : List MemPlace}
    (h : DataW.Trod enc Try.prog W 0 (fun _ => true) true 22 (.slice a len cap) d p) : ∃ ps, PRow W a len ps ∧ len ≤ maxLen := by
  obtain ⟨fuel, hf⟩ := h
  rcases open_slice Try.underlying22 hf with ⟨hcs, _⟩ | ⟨x, l, c, m, n, D, Pl, hcs, _, hl, hm, hmm, _, hx⟩
  · simp [Value.cells] at hcs
    obtain ⟨rfl, rfl, rfl⟩ := hcs
    exact ⟨[], ⟨rfl, fun h => by omega⟩, Nat.zero_le _⟩
  · simp [Value.cells] at hcs
    obtain ⟨rfl, rfl, rfl⟩ := hcs
    simp only [if_true] at hmm
    subst hmm
    rw [cells33] at hx
    obtain ⟨b, off, spot⟩ := x
    by_cases h0 : len = 0
    · subst h0
      exact ⟨[], ⟨rfl, fun h => by omega⟩, Nat.zero_le _⟩
    have hspot : spot = none := by
      obtain ⟨cs', h1, h2⟩ := hx 0 (by omega)
      obtain ⟨_, hcl, hcc⟩ := World.cells?_some h1
      obtain ⟨q, e0, _⟩ := open_par h2
      have := hcc 0 (by omega)
      rw [e0] at this
      simpa [Addr.add] using World.cell?_spot this
    subst hspot
    have key : ∀ i, i < len → ∃ q, CellsAt W b (off + i * 6) q ∧ b < W.heap.size := by
      intro i hi
      obtain ⟨cs', h1, h2⟩ := hx i (by omega)
      obtain ⟨_, hcl, hcc⟩ := World.cells?_some h1
      obtain ⟨q, e0, e1, e2, e3, e4, e5⟩ := open_par h2
      have c : ∀ j, j < 6 → W.cell? ⟨b, off + i * 6 + j, none⟩ = cs'[j]? := fun j hj => by
        have := hcc j hj
        rw [add_plain, add_plain] at this
        exact this
      exact ⟨q, ⟨(c 0 (by omega)).trans e0, (c 1 (by omega)).trans e1, (c 2 (by omega)).trans e2, (c 3 (by omega)).trans e3, (c 4 (by omega)).trans e4, (c 5 (by omega)).trans e5⟩, lt_cell ((c 0 (by omega)).trans e0)⟩
    obtain ⟨ps, hpl, hps⟩ := choose_list blank (fun i q => CellsAt W b (off + i * 6) q ∧ b < W.heap.size) len key
    exact ⟨ps, ⟨hpl, fun hp => ⟨b, off, rfl, (hps 0 hp).2, fun i hi => (hps i hi).1⟩⟩, by omega⟩
end Go.Proofs.Qxb6629080a
