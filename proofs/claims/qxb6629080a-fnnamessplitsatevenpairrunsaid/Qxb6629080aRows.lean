/-
  No cell of these rows narrows 'for every input' (looked for: loops, veiled, ifaces, maps, wideKeys, modest, calm, conditions, laid).
  DERIVED. THE GIVEN ROWS OF THIS SEAT. 2 by the template 'for every input the law returns true; each argument reads behind the call as it read before'; 0 by the template 'total and deterministic' (their statements: Qxb6629080aTotals.lean).
  GIVEN WITH THE SEED: the statements are not yours to turn. If you find one false, say at which input.
  Laid BY PROGRAM, IN A SANDBOX (cutbox-rows.mjs): the forced cells as the released guide's own fill.sh prints them over the translation 299b072871acc160… (all of the seat's roots in one cut). By AI agents, Wed Nov 11 2026. No macro, syntax, notation, axiom, sorry.
-/
import Derived.Test.Qxb6629080aChecked
import GoSem.Claim
import GoSem.ClaimJoined
import GoSem.ClaimMapViews
import Derived.JoinedTies
import Derived.KernelRfl
namespace Go.Proofs.Qxb6629080a
/- THE CELL 'sum', in the pinned program and in every row, IS THE sha256 OF THE DUMP (.gsa) THAT Qxb6629080aProg.lean LOADS. Nothing in Lean hashes anything: it is a label: what it is worth is what the hold of that sum in a sandbox is worth. -/
noncomputable def Try.pinned : Pinned := { name := "qxb6629080a", sum := "299b072871acc160c767c1aae1809a86e4d319ed6488c5ded9359822aecde393", checked := Try.checked }
namespace Rows
def none {H : Type} : Left H := { results := [], args := [] }

/-- 'zzlaws_protocol_b1.FnNamesMatchesPairRunParityModel': WHATEVER THE INPUT: true; the input reads as it did. -/
def fnNamesMatchesPairRunParityModelSpec : ChangeSpec := { name := "fnNamesMatchesPairRunParityModel", fn := fun _ => fun
  | [d1, d2, d3, d4, d5, d6, d7] => { results := [.lit (.bool true)], args := [d1, d2, d3, d4, d5, d6, d7] }
  | _ => none }
def fnNamesMatchesPairRunParityModelRow : OpenClaim := { program := "qxb6629080a", sum := "299b072871acc160c767c1aae1809a86e4d319ed6488c5ded9359822aecde393", func := "example.com/holdfast/holdfast/zzlaws_protocol_b1.FnNamesMatchesPairRunParityModel", spec := "fnNamesMatchesPairRunParityModel", apart := false }
def FnNamesMatchesPairRunParityModelSaid : Prop := fnNamesMatchesPairRunParityModelRow.holds Try.pinned (OpenSpec.ofChange fnNamesMatchesPairRunParityModelSpec)

/-- ITS FALSE NEIGHBOUR: 'it returns false'. Refute it at one input. -/
def fnNamesMatchesPairRunParityModelWrong : ChangeSpec := { name := "fnNamesMatchesPairRunParityModel", fn := fun _ => fun
  | [d1, d2, d3, d4, d5, d6, d7] => { results := [.lit (.bool false)], args := [d1, d2, d3, d4, d5, d6, d7] }
  | _ => none }
def FnNamesMatchesPairRunParityModelWrongFalsely : Prop := fnNamesMatchesPairRunParityModelRow.holds Try.pinned (OpenSpec.ofChange fnNamesMatchesPairRunParityModelWrong)

/-- 'zzlaws_protocol_b1.FnNamesSplitsAtEvenPairRun': WHATEVER THE INPUT: true; the input reads as it did. -/
def fnNamesSplitsAtEvenPairRunSpec : ChangeSpec := { name := "fnNamesSplitsAtEvenPairRun", fn := fun _ => fun
  | [d1, d2] => { results := [.lit (.bool true)], args := [d1, d2] }
  | _ => none }
def fnNamesSplitsAtEvenPairRunRow : OpenClaim := { program := "qxb6629080a", sum := "299b072871acc160c767c1aae1809a86e4d319ed6488c5ded9359822aecde393", func := "example.com/holdfast/holdfast/zzlaws_protocol_b1.FnNamesSplitsAtEvenPairRun", spec := "fnNamesSplitsAtEvenPairRun", apart := false }
def FnNamesSplitsAtEvenPairRunSaid : Prop := fnNamesSplitsAtEvenPairRunRow.holds Try.pinned (OpenSpec.ofChange fnNamesSplitsAtEvenPairRunSpec)

/-- ITS FALSE NEIGHBOUR: 'it returns false'. Refute it at one input. -/
def fnNamesSplitsAtEvenPairRunWrong : ChangeSpec := { name := "fnNamesSplitsAtEvenPairRun", fn := fun _ => fun
  | [d1, d2] => { results := [.lit (.bool false)], args := [d1, d2] }
  | _ => none }
def FnNamesSplitsAtEvenPairRunWrongFalsely : Prop := fnNamesSplitsAtEvenPairRunRow.holds Try.pinned (OpenSpec.ofChange fnNamesSplitsAtEvenPairRunWrong)

end Rows
end Go.Proofs.Qxb6629080a
