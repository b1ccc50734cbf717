/-
  No cell of these rows narrows 'for every input' (looked for: loops, veiled, ifaces, maps, wideKeys, modest, calm, conditions, laid).
  DERIVED. THE GIVEN ROWS OF THIS SEAT. 1 by the template 'for every input the law returns true; each argument reads behind the call as it read before'; 0 by the template 'total and deterministic' (their statements: Qxb6618561aFmtTotals.lean).
  GIVEN WITH THE SEED: the statements are not yours to turn. If you find one false, say at which input.
  Laid BY PROGRAM, IN A SANDBOX (cutbox-rows.mjs): the forced cells as the released guide's own fill.sh prints them over the translation da0e0940eed2c37b… (all of the seat's roots in one cut). By AI agents, Wed Nov 11 2026. No macro, syntax, notation, axiom, sorry.
-/
import Derived.Test.Qxb6618561aFmtChecked
import GoSem.Claim
import GoSem.ClaimJoined
import GoSem.ClaimMapViews
import Derived.JoinedTies
import Derived.KernelRfl
namespace Go.Proofs.Qxb6618561aFmt
/- THE CELL 'sum', in the pinned program and in every row, IS THE sha256 OF THE DUMP (.gsa) THAT Qxb6618561aFmtProg.lean LOADS. Nothing in Lean hashes anything: it is a label: what it is worth is what the hold of that sum in a sandbox is worth. -/
noncomputable def Tryf.pinned : Pinned := { name := "qxb6618561afmt", sum := "da0e0940eed2c37b6485be0a72222475e713f8fa35876b173a833a9d3dbf7878", checked := Tryf.checked }
namespace Rows
def none {H : Type} : Left H := { results := [], args := [] }

/-- 'zzlaws_root_b1.FnUnreadableSplitAtAnyCut': WHATEVER THE INPUT: true; the input reads as it did. -/
def fnUnreadableSplitAtAnyCutSpec : ChangeSpec := { name := "fnUnreadableSplitAtAnyCut", fn := fun _ => fun
  | [d1, d2, d3, d4] => { results := [.lit (.bool true)], args := [d1, d2, d3, d4] }
  | _ => none }
def fnUnreadableSplitAtAnyCutRow : OpenClaim := { program := "qxb6618561afmt", sum := "da0e0940eed2c37b6485be0a72222475e713f8fa35876b173a833a9d3dbf7878", func := "example.com/missive/missive/zzlaws_root_b1.FnUnreadableSplitAtAnyCut", spec := "fnUnreadableSplitAtAnyCut", stops := ["fmt.Sprintf, its operands' methods called"], inPlace := ["fmt.Sprintf"], unfollowed := true, recurses := true, apart := false }
/-- NO THEOREM (fmt's text is open here; it may be false): for the released tool's asking of the row's closed facts alone. THE STATEMENT IS 'FnUnreadableSplitAtAnyCutToldSaid' (Qxb6618561aFmtCards.lean). -/
def FnUnreadableSplitAtAnyCutFormAsk : Prop := fnUnreadableSplitAtAnyCutRow.holds Tryf.pinned (OpenSpec.ofChange fnUnreadableSplitAtAnyCutSpec)

/-- ITS FALSE NEIGHBOUR: 'it returns false'. Refute it at one input. -/
def fnUnreadableSplitAtAnyCutWrong : ChangeSpec := { name := "fnUnreadableSplitAtAnyCut", fn := fun _ => fun
  | [d1, d2, d3, d4] => { results := [.lit (.bool false)], args := [d1, d2, d3, d4] }
  | _ => none }
def FnUnreadableSplitAtAnyCutWrongFormAsk : Prop := fnUnreadableSplitAtAnyCutRow.holds Tryf.pinned (OpenSpec.ofChange fnUnreadableSplitAtAnyCutWrong)

end Rows
end Go.Proofs.Qxb6618561aFmt
