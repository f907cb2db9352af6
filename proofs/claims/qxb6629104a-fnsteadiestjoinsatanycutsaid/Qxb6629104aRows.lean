/-
  No cell of these rows narrows 'for every input' (looked for: loops, veiled, ifaces, maps, wideKeys, modest, calm, conditions, laid).
  DERIVED. THE GIVEN ROWS OF THIS SEAT. 2 by the template 'for every input the law returns true; each argument reads behind the call as it read before'; 0 by the template 'total and deterministic' (their statements: Qxb6629104aTotals.lean).
  GIVEN WITH THE SEED: the statements are not yours to turn. If you find one false, say at which input.
  Laid BY PROGRAM, IN A SANDBOX (cutbox-rows.mjs): the forced cells as the released guide's own fill.sh prints them over the translation d1a91db24475850a… (all of the seat's roots in one cut). By AI agents, Wed Nov 11 2026. No macro, syntax, notation, axiom, sorry.
-/
import Derived.Test.Qxb6629104aChecked
import GoSem.Claim
import GoSem.ClaimJoined
import GoSem.ClaimMapViews
import Derived.JoinedTies
import Derived.KernelRfl
namespace Go.Proofs.Qxb6629104a
/- THE CELL 'sum', in the pinned program and in every row, IS THE sha256 OF THE DUMP (.gsa) THAT Qxb6629104aProg.lean LOADS. Nothing in Lean hashes anything: it is a label: what it is worth is what the hold of that sum in a sandbox is worth. -/
noncomputable def Try.pinned : Pinned := { name := "qxb6629104a", sum := "d1a91db24475850afca154e0d5216a9749d2c3ba293ae901e27e4821f8f46711", checked := Try.checked }
namespace Rows
def none {H : Type} : Left H := { results := [], args := [] }

/-- 'zzlaws_place_b1.FnSteadiestJoinsAtAnyCut': WHATEVER THE INPUT: true; the input reads as it did. -/
def fnSteadiestJoinsAtAnyCutSpec : ChangeSpec := { name := "fnSteadiestJoinsAtAnyCut", fn := fun _ => fun
  | [d1, d2] => { results := [.lit (.bool true)], args := [d1, d2] }
  | _ => none }
def fnSteadiestJoinsAtAnyCutRow : OpenClaim := { program := "qxb6629104a", sum := "d1a91db24475850afca154e0d5216a9749d2c3ba293ae901e27e4821f8f46711", func := "example.com/throng/throng/zzlaws_place_b1.FnSteadiestJoinsAtAnyCut", spec := "fnSteadiestJoinsAtAnyCut", apart := false }
def FnSteadiestJoinsAtAnyCutSaid : Prop := fnSteadiestJoinsAtAnyCutRow.holds Try.pinned (OpenSpec.ofChange fnSteadiestJoinsAtAnyCutSpec)

/-- ITS FALSE NEIGHBOUR: 'it returns false'. Refute it at one input. -/
def fnSteadiestJoinsAtAnyCutWrong : ChangeSpec := { name := "fnSteadiestJoinsAtAnyCut", fn := fun _ => fun
  | [d1, d2] => { results := [.lit (.bool false)], args := [d1, d2] }
  | _ => none }
def FnSteadiestJoinsAtAnyCutWrongFalsely : Prop := fnSteadiestJoinsAtAnyCutRow.holds Try.pinned (OpenSpec.ofChange fnSteadiestJoinsAtAnyCutWrong)

/-- 'zzlaws_place_b1.FnNegatedRatesMirror': WHATEVER THE INPUT: true; the input reads as it did. -/
def fnNegatedRatesMirrorSpec : ChangeSpec := { name := "fnNegatedRatesMirror", fn := fun _ => fun
  | [d] => { results := [.lit (.bool true)], args := [d] }
  | _ => none }
def fnNegatedRatesMirrorRow : OpenClaim := { program := "qxb6629104a", sum := "d1a91db24475850afca154e0d5216a9749d2c3ba293ae901e27e4821f8f46711", func := "example.com/throng/throng/zzlaws_place_b1.FnNegatedRatesMirror", spec := "fnNegatedRatesMirror", apart := false }
def FnNegatedRatesMirrorSaid : Prop := fnNegatedRatesMirrorRow.holds Try.pinned (OpenSpec.ofChange fnNegatedRatesMirrorSpec)

/-- ITS FALSE NEIGHBOUR: 'it returns false'. Refute it at one input. -/
def fnNegatedRatesMirrorWrong : ChangeSpec := { name := "fnNegatedRatesMirror", fn := fun _ => fun
  | [d] => { results := [.lit (.bool false)], args := [d] }
  | _ => none }
def FnNegatedRatesMirrorWrongFalsely : Prop := fnNegatedRatesMirrorRow.holds Try.pinned (OpenSpec.ofChange fnNegatedRatesMirrorWrong)

end Rows
end Go.Proofs.Qxb6629104a
