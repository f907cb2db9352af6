/-
  No cell of these rows narrows 'for every input' (looked for: loops, veiled, ifaces, maps, wideKeys, modest, calm, conditions, laid).
  DERIVED. THE GIVEN ROWS OF THIS SEAT. 2 by the template 'for every input the law returns true; each argument reads behind the call as it read before'; 0 by the template 'total and deterministic' (their statements: Qxb6629032aTotals.lean).
  GIVEN WITH THE SEED: the statements are not yours to turn. If you find one false, say at which input.
  Laid BY PROGRAM, IN A SANDBOX (cutbox-rows.mjs): the forced cells as the released guide's own fill.sh prints them over the translation 67b1b71b2aaeda39… (all of the seat's roots in one cut). By AI agents, Wed Nov 11 2026. No macro, syntax, notation, axiom, sorry.
-/
import Derived.Test.Qxb6629032aChecked
import GoSem.Claim
import GoSem.ClaimJoined
import GoSem.ClaimMapViews
import Derived.JoinedTies
import Derived.KernelRfl
namespace Go.Proofs.Qxb6629032a
/- THE CELL 'sum', in the pinned program and in every row, IS THE sha256 OF THE DUMP (.gsa) THAT Qxb6629032aProg.lean LOADS. Nothing in Lean hashes anything: it is a label: what it is worth is what the hold of that sum in a sandbox is worth. -/
noncomputable def Try.pinned : Pinned := { name := "qxb6629032a", sum := "67b1b71b2aaeda39056f55b9b6b1fa1a76e80c41c435d6576b5a7da3c114bdf7", checked := Try.checked }
namespace Rows
def none {H : Type} : Left H := { results := [], args := [] }

/-- 'zzlaws_internal_hashslot_b1.FnAddRangeSplitMatchesSlotModel': WHATEVER THE INPUT: true; the input reads as it did. -/
def fnAddRangeSplitMatchesSlotModelSpec : ChangeSpec := { name := "fnAddRangeSplitMatchesSlotModel", fn := fun _ => fun
  | [d1, d2, d3, d4] => { results := [.lit (.bool true)], args := [d1, d2, d3, d4] }
  | _ => none }
def fnAddRangeSplitMatchesSlotModelRow : OpenClaim := { program := "qxb6629032a", sum := "67b1b71b2aaeda39056f55b9b6b1fa1a76e80c41c435d6576b5a7da3c114bdf7", func := "example.com/gossipshard/gossipshard/zzlaws_internal_hashslot_b1.FnAddRangeSplitMatchesSlotModel", spec := "fnAddRangeSplitMatchesSlotModel", apart := false }
def FnAddRangeSplitMatchesSlotModelSaid : Prop := fnAddRangeSplitMatchesSlotModelRow.holds Try.pinned (OpenSpec.ofChange fnAddRangeSplitMatchesSlotModelSpec)

/-- ITS FALSE NEIGHBOUR: 'it returns false'. Refute it at one input. -/
def fnAddRangeSplitMatchesSlotModelWrong : ChangeSpec := { name := "fnAddRangeSplitMatchesSlotModel", fn := fun _ => fun
  | [d1, d2, d3, d4] => { results := [.lit (.bool false)], args := [d1, d2, d3, d4] }
  | _ => none }
def FnAddRangeSplitMatchesSlotModelWrongFalsely : Prop := fnAddRangeSplitMatchesSlotModelRow.holds Try.pinned (OpenSpec.ofChange fnAddRangeSplitMatchesSlotModelWrong)

/-- 'zzlaws_internal_hashslot_b1.FnAddRangeIsUnionWithExactInterval': WHATEVER THE INPUT: true; the input reads as it did. -/
def fnAddRangeIsUnionWithExactIntervalSpec : ChangeSpec := { name := "fnAddRangeIsUnionWithExactInterval", fn := fun _ => fun
  | [d1, d2, d3] => { results := [.lit (.bool true)], args := [d1, d2, d3] }
  | _ => none }
def fnAddRangeIsUnionWithExactIntervalRow : OpenClaim := { program := "qxb6629032a", sum := "67b1b71b2aaeda39056f55b9b6b1fa1a76e80c41c435d6576b5a7da3c114bdf7", func := "example.com/gossipshard/gossipshard/zzlaws_internal_hashslot_b1.FnAddRangeIsUnionWithExactInterval", spec := "fnAddRangeIsUnionWithExactInterval", apart := false }
def FnAddRangeIsUnionWithExactIntervalSaid : Prop := fnAddRangeIsUnionWithExactIntervalRow.holds Try.pinned (OpenSpec.ofChange fnAddRangeIsUnionWithExactIntervalSpec)

/-- ITS FALSE NEIGHBOUR: 'it returns false'. Refute it at one input. -/
def fnAddRangeIsUnionWithExactIntervalWrong : ChangeSpec := { name := "fnAddRangeIsUnionWithExactInterval", fn := fun _ => fun
  | [d1, d2, d3] => { results := [.lit (.bool false)], args := [d1, d2, d3] }
  | _ => none }
def FnAddRangeIsUnionWithExactIntervalWrongFalsely : Prop := fnAddRangeIsUnionWithExactIntervalRow.holds Try.pinned (OpenSpec.ofChange fnAddRangeIsUnionWithExactIntervalWrong)

end Rows
end Go.Proofs.Qxb6629032a
