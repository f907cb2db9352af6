/-
  An array of 256 words that came in, opened.
-/
import Derived.Test.Qxb6629032aSteps
import Derived.ProofKit
import Derived.OpenShut
import Derived.ChangeOld
namespace Go.Proofs.Qxb6629032a
open Go.ChangeShapes Go.WideShapes Go.ChangeAt Go.RowKit
set_option linter.unusedVariables false
set_option linter.unusedSimpArgs false

theorem own : ownKnob Try.prog.godebug = none := by kernel_rfl
theorem laidOut : laidOutB Try.prog = true := by kernel_rfl

def natOf (v : Option Value) : Nat := match v with | some (.int _ n) => n.toNat | _ => 0

theorem open_set {H : Type} {enc : TypeId × Value → H} {W : World} {r : Reach} {base : Nat} {v : Value} {d : DataW H} {p : List MemPlace}
    (hv : Value.okWide Try.prog W r base 23 v) (h : DataW.Trod enc Try.prog W 0 (fun _ => true) true 23 v d p) : ∃ ws, Words ws ∧ v = .agg (U ws) := by
  simp only [Value.okWide, Try.underlying23] at hv
  obtain ⟨cs, rfl, hsz, _⟩ := hv
  rw [show Try.prog.cellsOf 23 = 256 by kernel_rfl] at hsz
  obtain ⟨fuel, hf⟩ := h
  obtain ⟨xs, m, _, _, _, hn, hall⟩ := DataW.trod_array Try.underlying23 hf
  rw [show Try.prog.cellsOf 22 = 1 by kernel_rfl] at hall
  have key : ∀ i, i < 256 → ∃ n : Nat, cs[i]? = some (.int .u64 (n : Int)) ∧ n < 18446744073709551616 := by
    intro i hi
    have h1 := hall i hi
    rw [List.getElem?_eq_getElem (by omega)] at h1
    obtain ⟨n, hc, _, hw⟩ := DataW.trod_int Try.underlying22 h1
    simp [Lit.wf, IntKind.min, IntKind.max, IntKind.signed, IntKind.bits] at hw
    have h2 : cs[i]? = some (.int .u64 n) := by
      have := congrArg (fun l => l[0]?) hc
      simpa [Value.cells, List.getElem?_take, List.getElem?_drop] using this
    refine ⟨n.toNat, ?_, by omega⟩
    rw [h2, Int.toNat_of_nonneg (by omega)]
  refine ⟨(List.range 256).map fun i => natOf cs[i]?, ⟨by simp, fun x hx => ?_⟩, ?_⟩
  · obtain ⟨i, hi, rfl⟩ := List.mem_map.1 hx
    obtain ⟨n, e, hlt⟩ := key i (List.mem_range.1 hi)
    rw [e]
    simp [natOf]
    exact hlt
  · congr 1
    apply Array.ext_getElem?
    intro i
    by_cases hi : i < 256
    · obtain ⟨n, e, hlt⟩ := key i hi
      rw [U_get _ _ (by simpa using hi), e]
      simp [List.getD_eq_getElem?_getD, hi, e, natOf]
    · rw [Array.getElem?_eq_none (by omega), Array.getElem?_eq_none (by rw [U_size]; simp; omega)]
theorem open_u16 {x : Int} (h : (Lit.int .u16 x).wf = true) : ∃ n : Nat, x = (n : Int) ∧ n < 65536 := by
  simp [Lit.wf, IntKind.min, IntKind.max, IntKind.signed, IntKind.bits] at h
  exact ⟨x.toNat, by omega, by omega⟩
end Go.Proofs.Qxb6629032a
