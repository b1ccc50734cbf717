/-
  DERIVED. GIVEN WITH THE SEED: THE CARDS: each row of Qxb6618500aFmtRows.lean that lists a variable, with what it lists TIED to the program's text (the seventh form; the later family's looks); each row that meets fmt, with fmt's text TOLD by the authors' own Lean function (tested against real Go, not proved from fmt's source: count such statements apart). THE CARD IS WHAT COUNTS. Prove the row's statement (the work); the ties are given (Qxb6618500aFmtTie.lean); close each card by the builder's one call (the guide's Derived/Test/ToyasCard.lean, 'card_holds'). Laid BY PROGRAM, IN A SANDBOX (cutbox-door.mjs). By AI agents, Wed Nov 11 2026. No macro, syntax, notation, axiom, sorry.
-/
import Derived.Test.Qxb6618500aFmtRows
import GoSem.ClaimSeven
namespace Go.Proofs.Qxb6618500aFmt
namespace Rows

/-- THE TOLD CARD OF 'zzlaws_root_b1.FnCodeOfGivesTheCodeAnErrorWasMadeWith'. -/
def fnCodeOfGivesTheCodeAnErrorWasMadeWithCard : Claim7 := { stood := { row := fnCodeOfGivesTheCodeAnErrorWasMadeWithRow, standIns := [], harness := (true, "0d19e4e4ddf7c88d1046ba7ad4419436e249f02f5db112e536749f54d58bf896"), looks := true }, told := true, goes := false }
def FnCodeOfGivesTheCodeAnErrorWasMadeWithToldSaid : Prop := Claim7.holds Tryf.pinned (.plain (OpenSpec.ofChange fnCodeOfGivesTheCodeAnErrorWasMadeWithSpec)) fnCodeOfGivesTheCodeAnErrorWasMadeWithCard
/-- ITS FALSE NEIGHBOUR. Refute it at one input. -/
def FnCodeOfGivesTheCodeAnErrorWasMadeWithToldWrongFalsely : Prop := Claim7.holds Tryf.pinned (.plain (OpenSpec.ofChange fnCodeOfGivesTheCodeAnErrorWasMadeWithWrong)) fnCodeOfGivesTheCodeAnErrorWasMadeWithCard

/-- THE TOLD CARD OF 'zzlaws_root_b1.FnCodeOfForeignErrorsAreInternal'. -/
def fnCodeOfForeignErrorsAreInternalCard : Claim7 := { stood := { row := fnCodeOfForeignErrorsAreInternalRow, standIns := [], harness := (true, "0d19e4e4ddf7c88d1046ba7ad4419436e249f02f5db112e536749f54d58bf896"), looks := true }, told := true, goes := false }
def FnCodeOfForeignErrorsAreInternalToldSaid : Prop := Claim7.holds Tryf.pinned (.plain (OpenSpec.ofChange fnCodeOfForeignErrorsAreInternalSpec)) fnCodeOfForeignErrorsAreInternalCard
/-- ITS FALSE NEIGHBOUR. Refute it at one input. -/
def FnCodeOfForeignErrorsAreInternalToldWrongFalsely : Prop := Claim7.holds Tryf.pinned (.plain (OpenSpec.ofChange fnCodeOfForeignErrorsAreInternalWrong)) fnCodeOfForeignErrorsAreInternalCard
end Rows
end Go.Proofs.Qxb6618500aFmt
