/-
  No cell of these rows narrows 'for every input' (looked for: loops, veiled, ifaces, maps, wideKeys, modest, calm, conditions, laid).
  DERIVED. THE GIVEN ROWS OF THIS SEAT. 2 by the template 'for every input the law returns true; each argument reads behind the call as it read before'; 0 by the template 'total and deterministic' (their statements: Qxb6618500aTotals.lean).
  GIVEN WITH THE SEED: the statements are not yours to turn. If you find one false, say at which input.
  Laid BY PROGRAM, IN A SANDBOX (cutbox-rows.mjs): the forced cells as the released guide's own fill.sh prints them over the translation 4fae4577c7552995… (all of the seat's roots in one cut). By AI agents, Wed Nov 11 2026. No macro, syntax, notation, axiom, sorry.
-/
import Derived.Test.Qxb6618500aChecked
import GoSem.Claim
import GoSem.ClaimJoined
import GoSem.ClaimMapViews
import Derived.JoinedTies
import Derived.KernelRfl
namespace Go.Proofs.Qxb6618500a
/- THE CELL 'sum', in the pinned program and in every row, IS THE sha256 OF THE DUMP (.gsa) THAT Qxb6618500aProg.lean LOADS. Nothing in Lean hashes anything: it is a label: what it is worth is what the hold of that sum in a sandbox is worth. -/
noncomputable def Try.pinned : Pinned := { name := "qxb6618500a", sum := "4fae4577c75529959e999a8e02ad8799cb47103991173abe29285f841e6c6e80", checked := Try.checked }
namespace Rows
def none {H : Type} : Left H := { results := [], args := [] }

/-- 'zzlaws_root_b1.FnLiteralEndFindsWhatStandsInB': WHATEVER THE INPUT: true; the input reads as it did. -/
def fnLiteralEndFindsWhatStandsInBSpec : ChangeSpec := { name := "fnLiteralEndFindsWhatStandsInB", fn := fun _ => fun
  | [d1, d2, d3, d4, d5] => { results := [.lit (.bool true)], args := [d1, d2, d3, d4, d5] }
  | _ => none }
def fnLiteralEndFindsWhatStandsInBRow : OpenClaim := { program := "qxb6618500a", sum := "4fae4577c75529959e999a8e02ad8799cb47103991173abe29285f841e6c6e80", func := "example.com/cera/cera/zzlaws_root_b1.FnLiteralEndFindsWhatStandsInB", spec := "fnLiteralEndFindsWhatStandsInB", apart := false }
def FnLiteralEndFindsWhatStandsInBSaid : Prop := fnLiteralEndFindsWhatStandsInBRow.holds Try.pinned (OpenSpec.ofChange fnLiteralEndFindsWhatStandsInBSpec)

/-- ITS FALSE NEIGHBOUR: 'it returns false'. Refute it at one input. -/
def fnLiteralEndFindsWhatStandsInBWrong : ChangeSpec := { name := "fnLiteralEndFindsWhatStandsInB", fn := fun _ => fun
  | [d1, d2, d3, d4, d5] => { results := [.lit (.bool false)], args := [d1, d2, d3, d4, d5] }
  | _ => none }
def FnLiteralEndFindsWhatStandsInBWrongFalsely : Prop := fnLiteralEndFindsWhatStandsInBRow.holds Try.pinned (OpenSpec.ofChange fnLiteralEndFindsWhatStandsInBWrong)

/-- 'zzlaws_root_b1.FnLiteralEndSplitsAtAnyCut': WHATEVER THE INPUT: true; the input reads as it did. -/
def fnLiteralEndSplitsAtAnyCutSpec : ChangeSpec := { name := "fnLiteralEndSplitsAtAnyCut", fn := fun _ => fun
  | [d1, d2, d3, d4] => { results := [.lit (.bool true)], args := [d1, d2, d3, d4] }
  | _ => none }
def fnLiteralEndSplitsAtAnyCutRow : OpenClaim := { program := "qxb6618500a", sum := "4fae4577c75529959e999a8e02ad8799cb47103991173abe29285f841e6c6e80", func := "example.com/cera/cera/zzlaws_root_b1.FnLiteralEndSplitsAtAnyCut", spec := "fnLiteralEndSplitsAtAnyCut", apart := false }
def FnLiteralEndSplitsAtAnyCutSaid : Prop := fnLiteralEndSplitsAtAnyCutRow.holds Try.pinned (OpenSpec.ofChange fnLiteralEndSplitsAtAnyCutSpec)

/-- ITS FALSE NEIGHBOUR: 'it returns false'. Refute it at one input. -/
def fnLiteralEndSplitsAtAnyCutWrong : ChangeSpec := { name := "fnLiteralEndSplitsAtAnyCut", fn := fun _ => fun
  | [d1, d2, d3, d4] => { results := [.lit (.bool false)], args := [d1, d2, d3, d4] }
  | _ => none }
def FnLiteralEndSplitsAtAnyCutWrongFalsely : Prop := fnLiteralEndSplitsAtAnyCutRow.holds Try.pinned (OpenSpec.ofChange fnLiteralEndSplitsAtAnyCutWrong)

end Rows
end Go.Proofs.Qxb6618500a
