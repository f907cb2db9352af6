/-
  NARROWER THAN 'FOR EVERY INPUT', by the rows' own cells (each row's printed sentence says how): FnValueOfNotIsComplement: maps · FnValueSplitsAtAnyCut: maps.
  DERIVED. THE GIVEN ROWS OF THIS SEAT. 2 by the template 'for every input the law returns true; each argument reads behind the call as it read before'; 0 by the template 'total and deterministic' (their statements: Qxb6629006aTotals.lean).
  GIVEN WITH THE SEED: the statements are not yours to turn. If you find one false, say at which input.
  Laid BY PROGRAM, IN A SANDBOX (cutbox-rows.mjs): the forced cells as the released guide's own fill.sh prints them over the translation 42592f51812bd46a… (all of the seat's roots in one cut). By AI agents, Wed Nov 11 2026. No macro, syntax, notation, axiom, sorry.
-/
import Derived.Test.Qxb6629006aChecked
import GoSem.Claim
import GoSem.ClaimJoined
import GoSem.ClaimMapViews
import Derived.JoinedTies
import Derived.KernelRfl
namespace Go.Proofs.Qxb6629006a
/- THE CELL 'sum', in the pinned program and in every row, IS THE sha256 OF THE DUMP (.gsa) THAT Qxb6629006aProg.lean LOADS. Nothing in Lean hashes anything: it is a label: what it is worth is what the hold of that sum in a sandbox is worth. -/
noncomputable def Try.pinned : Pinned := { name := "qxb6629006a", sum := "42592f51812bd46ae96f664c7d6d1d5794869c358dff3d47c3a0e51deb5e4e6b", checked := Try.checked }
namespace Rows
def none {H : Type} : Left H := { results := [], args := [] }

/-- 'zzlaws_internal_formula_b1.FnValueOfNotIsComplement': WHATEVER THE INPUT: true; the input reads as it did. -/
def fnValueOfNotIsComplementSpec : ChangeSpec := { name := "fnValueOfNotIsComplement", fn := fun _ => fun
  | [d1, d2] => { results := [.lit (.bool true)], args := [d1, d2] }
  | _ => none }
def fnValueOfNotIsComplementRow : OpenClaim := { program := "qxb6629006a", sum := "42592f51812bd46ae96f664c7d6d1d5794869c358dff3d47c3a0e51deb5e4e6b", func := "example.com/veto/veto/zzlaws_internal_formula_b1.FnValueOfNotIsComplement", spec := "fnValueOfNotIsComplement", maps := true, apart := false }
def FnValueOfNotIsComplementSaid : Prop := fnValueOfNotIsComplementRow.holds Try.pinned (OpenSpec.ofChange fnValueOfNotIsComplementSpec)

/-- ITS FALSE NEIGHBOUR: 'it returns false'. Refute it at one input. -/
def fnValueOfNotIsComplementWrong : ChangeSpec := { name := "fnValueOfNotIsComplement", fn := fun _ => fun
  | [d1, d2] => { results := [.lit (.bool false)], args := [d1, d2] }
  | _ => none }
def FnValueOfNotIsComplementWrongFalsely : Prop := fnValueOfNotIsComplementRow.holds Try.pinned (OpenSpec.ofChange fnValueOfNotIsComplementWrong)

/-- 'zzlaws_internal_formula_b1.FnValueSplitsAtAnyCut': WHATEVER THE INPUT: true; the input reads as it did. -/
def fnValueSplitsAtAnyCutSpec : ChangeSpec := { name := "fnValueSplitsAtAnyCut", fn := fun _ => fun
  | [d1, d2, d3] => { results := [.lit (.bool true)], args := [d1, d2, d3] }
  | _ => none }
def fnValueSplitsAtAnyCutRow : OpenClaim := { program := "qxb6629006a", sum := "42592f51812bd46ae96f664c7d6d1d5794869c358dff3d47c3a0e51deb5e4e6b", func := "example.com/veto/veto/zzlaws_internal_formula_b1.FnValueSplitsAtAnyCut", spec := "fnValueSplitsAtAnyCut", maps := true, apart := false }
def FnValueSplitsAtAnyCutSaid : Prop := fnValueSplitsAtAnyCutRow.holds Try.pinned (OpenSpec.ofChange fnValueSplitsAtAnyCutSpec)

/-- ITS FALSE NEIGHBOUR: 'it returns false'. Refute it at one input. -/
def fnValueSplitsAtAnyCutWrong : ChangeSpec := { name := "fnValueSplitsAtAnyCut", fn := fun _ => fun
  | [d1, d2, d3] => { results := [.lit (.bool false)], args := [d1, d2, d3] }
  | _ => none }
def FnValueSplitsAtAnyCutWrongFalsely : Prop := fnValueSplitsAtAnyCutRow.holds Try.pinned (OpenSpec.ofChange fnValueSplitsAtAnyCutWrong)

end Rows
end Go.Proofs.Qxb6629006a
