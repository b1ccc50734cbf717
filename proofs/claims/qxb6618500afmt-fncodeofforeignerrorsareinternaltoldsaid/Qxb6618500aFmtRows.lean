/-
  No cell of these rows narrows 'for every input' (looked for: loops, veiled, ifaces, maps, wideKeys, modest, calm, conditions, laid).
  DERIVED. THE GIVEN ROWS OF THIS SEAT. 2 by the template 'for every input the law returns true; each argument reads behind the call as it read before'; 0 by the template 'total and deterministic' (their statements: Qxb6618500aFmtTotals.lean).
  GIVEN WITH THE SEED: the statements are not yours to turn. If you find one false, say at which input.
  Laid BY PROGRAM, IN A SANDBOX (cutbox-rows.mjs): the forced cells as the released guide's own fill.sh prints them over the translation 756ed3737bafa26c… (all of the seat's roots in one cut). By AI agents, Wed Nov 11 2026. No macro, syntax, notation, axiom, sorry.
-/
import Derived.Test.Qxb6618500aFmtChecked
import GoSem.Claim
import GoSem.ClaimJoined
import GoSem.ClaimMapViews
import Derived.JoinedTies
import Derived.KernelRfl
namespace Go.Proofs.Qxb6618500aFmt
/- THE CELL 'sum', in the pinned program and in every row, IS THE sha256 OF THE DUMP (.gsa) THAT Qxb6618500aFmtProg.lean LOADS. Nothing in Lean hashes anything: it is a label: what it is worth is what the hold of that sum in a sandbox is worth. -/
noncomputable def Tryf.pinned : Pinned := { name := "qxb6618500afmt", sum := "756ed3737bafa26c689c75adf58d3d5f763262f14578e250b79b07b830642f70", checked := Tryf.checked }
namespace Rows
def none {H : Type} : Left H := { results := [], args := [] }

/-- 'zzlaws_root_b1.FnCodeOfGivesTheCodeAnErrorWasMadeWith': WHATEVER THE INPUT: true; the input reads as it did. -/
def fnCodeOfGivesTheCodeAnErrorWasMadeWithSpec : ChangeSpec := { name := "fnCodeOfGivesTheCodeAnErrorWasMadeWith", fn := fun _ => fun
  | [d1, d2, d3, d4] => { results := [.lit (.bool true)], args := [d1, d2, d3, d4] }
  | _ => none }
def fnCodeOfGivesTheCodeAnErrorWasMadeWithRow : OpenClaim := { program := "qxb6618500afmt", sum := "756ed3737bafa26c689c75adf58d3d5f763262f14578e250b79b07b830642f70", func := "example.com/cera/cera/zzlaws_root_b1.FnCodeOfGivesTheCodeAnErrorWasMadeWith", spec := "fnCodeOfGivesTheCodeAnErrorWasMadeWith", stops := ["fmt.Sprintf, its operands' methods called"], inPlace := ["fmt.Sprintf", "internal/bytealg.abigen_runtime_cmpstring", "slices.overlaps[example.com/cera/cera.pair[string]]"], unfollowed := true, recurses := true, apart := false }
/-- NO THEOREM (fmt's text is open here; it may be false): for the released tool's asking of the row's closed facts alone. THE STATEMENT IS 'FnCodeOfGivesTheCodeAnErrorWasMadeWithToldSaid' (Qxb6618500aFmtCards.lean). -/
def FnCodeOfGivesTheCodeAnErrorWasMadeWithFormAsk : Prop := fnCodeOfGivesTheCodeAnErrorWasMadeWithRow.holds Tryf.pinned (OpenSpec.ofChange fnCodeOfGivesTheCodeAnErrorWasMadeWithSpec)

/-- ITS FALSE NEIGHBOUR: 'it returns false'. Refute it at one input. -/
def fnCodeOfGivesTheCodeAnErrorWasMadeWithWrong : ChangeSpec := { name := "fnCodeOfGivesTheCodeAnErrorWasMadeWith", fn := fun _ => fun
  | [d1, d2, d3, d4] => { results := [.lit (.bool false)], args := [d1, d2, d3, d4] }
  | _ => none }
def FnCodeOfGivesTheCodeAnErrorWasMadeWithWrongFormAsk : Prop := fnCodeOfGivesTheCodeAnErrorWasMadeWithRow.holds Tryf.pinned (OpenSpec.ofChange fnCodeOfGivesTheCodeAnErrorWasMadeWithWrong)

/-- 'zzlaws_root_b1.FnCodeOfForeignErrorsAreInternal': WHATEVER THE INPUT: true; the input reads as it did. -/
def fnCodeOfForeignErrorsAreInternalSpec : ChangeSpec := { name := "fnCodeOfForeignErrorsAreInternal", fn := fun _ => fun
  | [d] => { results := [.lit (.bool true)], args := [d] }
  | _ => none }
def fnCodeOfForeignErrorsAreInternalRow : OpenClaim := { program := "qxb6618500afmt", sum := "756ed3737bafa26c689c75adf58d3d5f763262f14578e250b79b07b830642f70", func := "example.com/cera/cera/zzlaws_root_b1.FnCodeOfForeignErrorsAreInternal", spec := "fnCodeOfForeignErrorsAreInternal", stops := ["fmt.Sprintf, its operands' methods called"], inPlace := ["fmt.Sprintf", "internal/bytealg.abigen_runtime_cmpstring", "slices.overlaps[example.com/cera/cera.pair[string]]"], unfollowed := true, recurses := true, apart := false }
/-- NO THEOREM (fmt's text is open here; it may be false): for the released tool's asking of the row's closed facts alone. THE STATEMENT IS 'FnCodeOfForeignErrorsAreInternalToldSaid' (Qxb6618500aFmtCards.lean). -/
def FnCodeOfForeignErrorsAreInternalFormAsk : Prop := fnCodeOfForeignErrorsAreInternalRow.holds Tryf.pinned (OpenSpec.ofChange fnCodeOfForeignErrorsAreInternalSpec)

/-- ITS FALSE NEIGHBOUR: 'it returns false'. Refute it at one input. -/
def fnCodeOfForeignErrorsAreInternalWrong : ChangeSpec := { name := "fnCodeOfForeignErrorsAreInternal", fn := fun _ => fun
  | [d] => { results := [.lit (.bool false)], args := [d] }
  | _ => none }
def FnCodeOfForeignErrorsAreInternalWrongFormAsk : Prop := fnCodeOfForeignErrorsAreInternalRow.holds Tryf.pinned (OpenSpec.ofChange fnCodeOfForeignErrorsAreInternalWrong)

end Rows
end Go.Proofs.Qxb6618500aFmt
