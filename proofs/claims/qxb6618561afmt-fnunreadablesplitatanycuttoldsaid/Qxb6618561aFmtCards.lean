/-
  DERIVED. GIVEN WITH THE SEED: THE CARDS: each row of Qxb6618561aFmtRows.lean that lists a variable, with what it lists TIED to the program's text (the seventh form; the later family's looks); each row that meets fmt, with fmt's text TOLD by the authors' own Lean function (tested against real Go, not proved from fmt's source: count such statements apart). THE CARD IS WHAT COUNTS. Prove the row's statement (the work); the ties are given (Qxb6618561aFmtTie.lean); close each card by the builder's one call (the guide's Derived/Test/ToyasCard.lean, 'card_holds'). Laid BY PROGRAM, IN A SANDBOX (cutbox-door.mjs). By AI agents, Wed Nov 11 2026. No macro, syntax, notation, axiom, sorry.
-/
import Derived.Test.Qxb6618561aFmtRows
import GoSem.ClaimSeven
namespace Go.Proofs.Qxb6618561aFmt
namespace Rows

/-- THE TOLD CARD OF 'zzlaws_root_b1.FnUnreadableSplitAtAnyCut'. -/
def fnUnreadableSplitAtAnyCutCard : Claim7 := { stood := { row := fnUnreadableSplitAtAnyCutRow, standIns := [], harness := (true, "738ff192e42f5a5d5cdb02c4aa44d35816b7f974915d2c5e00bf41ee3f70199d"), looks := false }, told := true, goes := false }
def FnUnreadableSplitAtAnyCutToldSaid : Prop := Claim7.holds Tryf.pinned (.plain (OpenSpec.ofChange fnUnreadableSplitAtAnyCutSpec)) fnUnreadableSplitAtAnyCutCard
/-- ITS FALSE NEIGHBOUR. Refute it at one input. -/
def FnUnreadableSplitAtAnyCutToldWrongFalsely : Prop := Claim7.holds Tryf.pinned (.plain (OpenSpec.ofChange fnUnreadableSplitAtAnyCutWrong)) fnUnreadableSplitAtAnyCutCard
end Rows
end Go.Proofs.Qxb6618561aFmt
