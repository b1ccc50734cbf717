/-
  No cell of these rows narrows 'for every input' (looked for: loops, veiled, ifaces, maps, wideKeys, modest, calm, conditions, laid).
  DERIVED. THE GIVEN ROWS OF THIS SEAT. 5 by the template 'for every input the law returns true; each argument reads behind the call as it read before'; 0 by the template 'total and deterministic' (their statements: Qxb6618615aTotals.lean).
  GIVEN WITH THE SEED: the statements are not yours to turn. If you find one false, say at which input.
  Laid BY PROGRAM, IN A SANDBOX (cutbox-rows.mjs): the forced cells as the released guide's own fill.sh prints them over the translation 82be994e37064715… (all of the seat's roots in one cut). By AI agents, Wed Nov 11 2026. No macro, syntax, notation, axiom, sorry.
-/
import Derived.Test.Qxb6618615aChecked
import GoSem.Claim
import GoSem.ClaimJoined
import GoSem.ClaimMapViews
import Derived.JoinedTies
import Derived.KernelRfl
namespace Go.Proofs.Qxb6618615a
/- THE CELL 'sum', in the pinned program and in every row, IS THE sha256 OF THE DUMP (.gsa) THAT Qxb6618615aProg.lean LOADS. Nothing in Lean hashes anything: it is a label: what it is worth is what the hold of that sum in a sandbox is worth. -/
noncomputable def Try.pinned : Pinned := { name := "qxb6618615a", sum := "82be994e3706471541d2a5e15eb440a882c0f62ee99638a0dfdf5d4f01a69c51", checked := Try.checked }
namespace Rows
def none {H : Type} : Left H := { results := [], args := [] }

/-- 'zzlaws_root_b1.FnHeldJoinsFlagsAndSplitsComplements': WHATEVER THE INPUT: true; the input reads as it did. -/
def fnHeldJoinsFlagsAndSplitsComplementsSpec : ChangeSpec := { name := "fnHeldJoinsFlagsAndSplitsComplements", fn := fun _ => fun
  | [d1, d2, d3, d4, d5, d6] => { results := [.lit (.bool true)], args := [d1, d2, d3, d4, d5, d6] }
  | _ => none }
def fnHeldJoinsFlagsAndSplitsComplementsRow : OpenClaim := { program := "qxb6618615a", sum := "82be994e3706471541d2a5e15eb440a882c0f62ee99638a0dfdf5d4f01a69c51", func := "example.com/orrery/orrery/zzlaws_root_b1.FnHeldJoinsFlagsAndSplitsComplements", spec := "fnHeldJoinsFlagsAndSplitsComplements", apart := false }
def FnHeldJoinsFlagsAndSplitsComplementsSaid : Prop := fnHeldJoinsFlagsAndSplitsComplementsRow.holds Try.pinned (OpenSpec.ofChange fnHeldJoinsFlagsAndSplitsComplementsSpec)

/-- ITS FALSE NEIGHBOUR: 'it returns false'. Refute it at one input. -/
def fnHeldJoinsFlagsAndSplitsComplementsWrong : ChangeSpec := { name := "fnHeldJoinsFlagsAndSplitsComplements", fn := fun _ => fun
  | [d1, d2, d3, d4, d5, d6] => { results := [.lit (.bool false)], args := [d1, d2, d3, d4, d5, d6] }
  | _ => none }
def FnHeldJoinsFlagsAndSplitsComplementsWrongFalsely : Prop := fnHeldJoinsFlagsAndSplitsComplementsRow.holds Try.pinned (OpenSpec.ofChange fnHeldJoinsFlagsAndSplitsComplementsWrong)

/-- 'zzlaws_root_b1.FnAdmitsGrantsUnionOfCaps': WHATEVER THE INPUT: true; the input reads as it did. -/
def fnAdmitsGrantsUnionOfCapsSpec : ChangeSpec := { name := "fnAdmitsGrantsUnionOfCaps", fn := fun _ => fun
  | [d1, d2, d3, d4, d5, d6, d7, d8] => { results := [.lit (.bool true)], args := [d1, d2, d3, d4, d5, d6, d7, d8] }
  | _ => none }
def fnAdmitsGrantsUnionOfCapsRow : OpenClaim := { program := "qxb6618615a", sum := "82be994e3706471541d2a5e15eb440a882c0f62ee99638a0dfdf5d4f01a69c51", func := "example.com/orrery/orrery/zzlaws_root_b1.FnAdmitsGrantsUnionOfCaps", spec := "fnAdmitsGrantsUnionOfCaps", inPlace := ["internal/bytealg.IndexByteString", "internal/bytealg.IndexString"], unfollowed := true, recurses := true, named := ["internal/bytealg.MaxLen"], apart := false }
def FnAdmitsGrantsUnionOfCapsSaid : Prop := fnAdmitsGrantsUnionOfCapsRow.holds Try.pinned (OpenSpec.ofChange fnAdmitsGrantsUnionOfCapsSpec)

/-- ITS FALSE NEIGHBOUR: 'it returns false'. Refute it at one input. -/
def fnAdmitsGrantsUnionOfCapsWrong : ChangeSpec := { name := "fnAdmitsGrantsUnionOfCaps", fn := fun _ => fun
  | [d1, d2, d3, d4, d5, d6, d7, d8] => { results := [.lit (.bool false)], args := [d1, d2, d3, d4, d5, d6, d7, d8] }
  | _ => none }
def FnAdmitsGrantsUnionOfCapsWrongFalsely : Prop := fnAdmitsGrantsUnionOfCapsRow.holds Try.pinned (OpenSpec.ofChange fnAdmitsGrantsUnionOfCapsWrong)

/-- 'zzlaws_root_b1.FnAdmitsExpiryAndDepthThresholds': WHATEVER THE INPUT: true; the input reads as it did. -/
def fnAdmitsExpiryAndDepthThresholdsSpec : ChangeSpec := { name := "fnAdmitsExpiryAndDepthThresholds", fn := fun _ => fun
  | [d1, d2, d3, d4, d5, d6, d7, d8] => { results := [.lit (.bool true)], args := [d1, d2, d3, d4, d5, d6, d7, d8] }
  | _ => none }
def fnAdmitsExpiryAndDepthThresholdsRow : OpenClaim := { program := "qxb6618615a", sum := "82be994e3706471541d2a5e15eb440a882c0f62ee99638a0dfdf5d4f01a69c51", func := "example.com/orrery/orrery/zzlaws_root_b1.FnAdmitsExpiryAndDepthThresholds", spec := "fnAdmitsExpiryAndDepthThresholds", inPlace := ["internal/bytealg.IndexByteString", "internal/bytealg.IndexString"], unfollowed := true, recurses := true, named := ["internal/bytealg.MaxLen"], apart := false }
def FnAdmitsExpiryAndDepthThresholdsSaid : Prop := fnAdmitsExpiryAndDepthThresholdsRow.holds Try.pinned (OpenSpec.ofChange fnAdmitsExpiryAndDepthThresholdsSpec)

/-- ITS FALSE NEIGHBOUR: 'it returns false'. Refute it at one input. -/
def fnAdmitsExpiryAndDepthThresholdsWrong : ChangeSpec := { name := "fnAdmitsExpiryAndDepthThresholds", fn := fun _ => fun
  | [d1, d2, d3, d4, d5, d6, d7, d8] => { results := [.lit (.bool false)], args := [d1, d2, d3, d4, d5, d6, d7, d8] }
  | _ => none }
def FnAdmitsExpiryAndDepthThresholdsWrongFalsely : Prop := fnAdmitsExpiryAndDepthThresholdsRow.holds Try.pinned (OpenSpec.ofChange fnAdmitsExpiryAndDepthThresholdsWrong)

/-- 'zzlaws_root_b1.FnSafelyHandsBackErrorsAndPanics': WHATEVER THE INPUT: true; the input reads as it did. -/
def fnSafelyHandsBackErrorsAndPanicsSpec : ChangeSpec := { name := "fnSafelyHandsBackErrorsAndPanics", fn := fun _ => fun
  | [d1, d2] => { results := [.lit (.bool true)], args := [d1, d2] }
  | _ => none }
def fnSafelyHandsBackErrorsAndPanicsRow : OpenClaim := { program := "qxb6618615a", sum := "82be994e3706471541d2a5e15eb440a882c0f62ee99638a0dfdf5d4f01a69c51", func := "example.com/orrery/orrery/zzlaws_root_b1.FnSafelyHandsBackErrorsAndPanics", spec := "fnSafelyHandsBackErrorsAndPanics", inPlace := ["runtime.Stack"], unfollowed := true, recurses := true, apart := false }
def FnSafelyHandsBackErrorsAndPanicsSaid : Prop := fnSafelyHandsBackErrorsAndPanicsRow.holds Try.pinned (OpenSpec.ofChange fnSafelyHandsBackErrorsAndPanicsSpec)

/-- ITS FALSE NEIGHBOUR: 'it returns false'. Refute it at one input. -/
def fnSafelyHandsBackErrorsAndPanicsWrong : ChangeSpec := { name := "fnSafelyHandsBackErrorsAndPanics", fn := fun _ => fun
  | [d1, d2] => { results := [.lit (.bool false)], args := [d1, d2] }
  | _ => none }
def FnSafelyHandsBackErrorsAndPanicsWrongFalsely : Prop := fnSafelyHandsBackErrorsAndPanicsRow.holds Try.pinned (OpenSpec.ofChange fnSafelyHandsBackErrorsAndPanicsWrong)

/-- 'zzlaws_root_b1.FnSafelyNestedAddsNoWrapping': WHATEVER THE INPUT: true; the input reads as it did. -/
def fnSafelyNestedAddsNoWrappingSpec : ChangeSpec := { name := "fnSafelyNestedAddsNoWrapping", fn := fun _ => fun
  | [d1, d2] => { results := [.lit (.bool true)], args := [d1, d2] }
  | _ => none }
def fnSafelyNestedAddsNoWrappingRow : OpenClaim := { program := "qxb6618615a", sum := "82be994e3706471541d2a5e15eb440a882c0f62ee99638a0dfdf5d4f01a69c51", func := "example.com/orrery/orrery/zzlaws_root_b1.FnSafelyNestedAddsNoWrapping", spec := "fnSafelyNestedAddsNoWrapping", inPlace := ["runtime.Stack"], unfollowed := true, recurses := true, apart := false }
def FnSafelyNestedAddsNoWrappingSaid : Prop := fnSafelyNestedAddsNoWrappingRow.holds Try.pinned (OpenSpec.ofChange fnSafelyNestedAddsNoWrappingSpec)

/-- ITS FALSE NEIGHBOUR: 'it returns false'. Refute it at one input. -/
def fnSafelyNestedAddsNoWrappingWrong : ChangeSpec := { name := "fnSafelyNestedAddsNoWrapping", fn := fun _ => fun
  | [d1, d2] => { results := [.lit (.bool false)], args := [d1, d2] }
  | _ => none }
def FnSafelyNestedAddsNoWrappingWrongFalsely : Prop := fnSafelyNestedAddsNoWrappingRow.holds Try.pinned (OpenSpec.ofChange fnSafelyNestedAddsNoWrappingWrong)

end Rows
end Go.Proofs.Qxb6618615a
