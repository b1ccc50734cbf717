/-
  No cell of these rows narrows 'for every input' (looked for: loops, veiled, ifaces, maps, wideKeys, modest, calm, conditions, laid).
  DERIVED. THE GIVEN ROWS OF THIS SEAT. 2 by the template 'for every input the law returns true; each argument reads behind the call as it read before'; 0 by the template 'total and deterministic' (their statements: Qxb6618510aTotals.lean).
  GIVEN WITH THE SEED: the statements are not yours to turn. If you find one false, say at which input.
  Laid BY PROGRAM, IN A SANDBOX (cutbox-rows.mjs): the forced cells as the released guide's own fill.sh prints them over the translation f7c3e4308dd34519… (all of the seat's roots in one cut). By AI agents, Wed Nov 11 2026. No macro, syntax, notation, axiom, sorry.
-/
import Derived.Test.Qxb6618510aChecked
import GoSem.Claim
import GoSem.ClaimJoined
import GoSem.ClaimMapViews
import Derived.JoinedTies
import Derived.KernelRfl
namespace Go.Proofs.Qxb6618510a
/- THE CELL 'sum', in the pinned program and in every row, IS THE sha256 OF THE DUMP (.gsa) THAT Qxb6618510aProg.lean LOADS. Nothing in Lean hashes anything: it is a label: what it is worth is what the hold of that sum in a sandbox is worth. -/
noncomputable def Try.pinned : Pinned := { name := "qxb6618510a", sum := "f7c3e4308dd345195d16a6f5a3bc07343985071984cf916ac07583d0db354dfc", checked := Try.checked }
namespace Rows
def none {H : Type} : Left H := { results := [], args := [] }

/-- 'zzlaws_internal_history_b1.FnEdnValueStringCutsAtLastCharacterStart': WHATEVER THE INPUT: true; the input reads as it did. -/
def fnEdnValueStringCutsAtLastCharacterStartSpec : ChangeSpec := { name := "fnEdnValueStringCutsAtLastCharacterStart", fn := fun _ => fun
  | [d1, d2, d3, d4] => { results := [.lit (.bool true)], args := [d1, d2, d3, d4] }
  | _ => none }
def fnEdnValueStringCutsAtLastCharacterStartRow : OpenClaim := { program := "qxb6618510a", sum := "f7c3e4308dd345195d16a6f5a3bc07343985071984cf916ac07583d0db354dfc", func := "example.com/linwatch/linwatch/zzlaws_internal_history_b1.FnEdnValueStringCutsAtLastCharacterStart", spec := "fnEdnValueStringCutsAtLastCharacterStart", apart := false }
def FnEdnValueStringCutsAtLastCharacterStartSaid : Prop := fnEdnValueStringCutsAtLastCharacterStartRow.holds Try.pinned (OpenSpec.ofChange fnEdnValueStringCutsAtLastCharacterStartSpec)

/-- ITS FALSE NEIGHBOUR: 'it returns false'. Refute it at one input. -/
def fnEdnValueStringCutsAtLastCharacterStartWrong : ChangeSpec := { name := "fnEdnValueStringCutsAtLastCharacterStart", fn := fun _ => fun
  | [d1, d2, d3, d4] => { results := [.lit (.bool false)], args := [d1, d2, d3, d4] }
  | _ => none }
def FnEdnValueStringCutsAtLastCharacterStartWrongFalsely : Prop := fnEdnValueStringCutsAtLastCharacterStartRow.holds Try.pinned (OpenSpec.ofChange fnEdnValueStringCutsAtLastCharacterStartWrong)

/-- 'zzlaws_internal_history_b1.FnEdnValueStringKeepsWholeCharacters': WHATEVER THE INPUT: true; the input reads as it did. -/
def fnEdnValueStringKeepsWholeCharactersSpec : ChangeSpec := { name := "fnEdnValueStringKeepsWholeCharacters", fn := fun _ => fun
  | [d1, d2, d3] => { results := [.lit (.bool true)], args := [d1, d2, d3] }
  | _ => none }
def fnEdnValueStringKeepsWholeCharactersRow : OpenClaim := { program := "qxb6618510a", sum := "f7c3e4308dd345195d16a6f5a3bc07343985071984cf916ac07583d0db354dfc", func := "example.com/linwatch/linwatch/zzlaws_internal_history_b1.FnEdnValueStringKeepsWholeCharacters", spec := "fnEdnValueStringKeepsWholeCharacters", apart := false }
def FnEdnValueStringKeepsWholeCharactersSaid : Prop := fnEdnValueStringKeepsWholeCharactersRow.holds Try.pinned (OpenSpec.ofChange fnEdnValueStringKeepsWholeCharactersSpec)

/-- ITS FALSE NEIGHBOUR: 'it returns false'. Refute it at one input. -/
def fnEdnValueStringKeepsWholeCharactersWrong : ChangeSpec := { name := "fnEdnValueStringKeepsWholeCharacters", fn := fun _ => fun
  | [d1, d2, d3] => { results := [.lit (.bool false)], args := [d1, d2, d3] }
  | _ => none }
def FnEdnValueStringKeepsWholeCharactersWrongFalsely : Prop := fnEdnValueStringKeepsWholeCharactersRow.holds Try.pinned (OpenSpec.ofChange fnEdnValueStringKeepsWholeCharactersWrong)

end Rows
end Go.Proofs.Qxb6618510a
