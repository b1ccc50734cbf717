/-
  'Rows.FnCodeOfForeignErrorsAreInternalToldSaid', proved. The road comes to fmt.Sprintf of the verb T; the walk serves every text that fmt may give; the card is a told one (fmt's texts told by the authors' own function, tested against real Go, not proved from fmt's source).
-/
import Derived.Test.Qxb6618500aFmtCards
import Derived.Test.Qxb6618500aFmtForeignWalk
import Derived.OpenShut
import Derived.ShutString
import Derived.ChangeOld
import Derived.Stop.JoinedTold
import Derived.SevenToldRow
namespace Go.Proofs.Qxb6618500aFmt.foreign
open Go.ChangeShapes Go.WideShapes Go.ChangeAt Go.RowKit
open Go.Extern.Stop Go.Stop Go.Extern
open Go.ChangeMaps (open_string shut_string)

theorem own : ownKnob Tryf.prog.godebug = none := by kernel_rfl

set_option maxRecDepth 100000 in
theorem lifted (os : Os) (started : os.Started) (H : Type) (enc : TypeId × Value → H) :
    ReturnsInTold none {} Tryf.checked os 4 .any Input.okWide ((OpenSpec.ofChange Rows.fnCodeOfForeignErrorsAreInternalSpec).preRow enc Tryf.prog Tryf.f4 [] false []) (fun F => ((OpenSpec.ofChange Rows.fnCodeOfForeignErrorsAreInternalSpec).at F).post enc Tryf.prog Tryf.f4 false true false false) (aloneAtReturn Tryf.prog) nothingAlways := by
  refine returnsInTold_of_row (C := Tryf.checked) (s := OpenSpec.ofChange Rows.fnCodeOfForeignErrorsAreInternalSpec) (by kernel_rfl) own started (by kernel_rfl) Tryf.func4
    (OpenSpec.witness_stopped (enc := enc) (C := Tryf.checked) false ⟨#[], #[.string ByteArray.empty], []⟩ 8 (by kernel_rfl) (by kernel_rfl) (by kernel_rfl) (by kernel_rfl)) ?_
  intro F W base args ds gs before _ hF hval0 hW _ _ _ _ _
  have hval : ∀ (j : Nat) t v, Tryf.f4.params[j]? = some t → args[j]? = some v → Value.okWide Tryf.prog W .any base t v := hval0
  have hW' := hW
  obtain ⟨p, q, hA0, hV, rfl, hfz, hnd⟩ := hW
  have hA : DataW.TrodAll enc Tryf.prog W 0 (fun _ => true) true Tryf.f4.params.toList args.toList ds p := hA0
  rw [Tryf.params4] at hA hval
  obtain ⟨v0, d0, rfl, rfl, h0⟩ := trodAll_one hA
  obtain ⟨rfl, rfl⟩ := trodVars_none hV
  obtain ⟨a0, rfl, rfl, rfl, w0⟩ := open_string Tryf.underlying9 (hval 0 9 v0 rfl rfl) h0
  clear hA0 hval0
  refine (foreign_walk F.told a0 W hF w0).mono fun e W' ⟨he, bel⟩ => ?_
  subst he
  exact ⟨_, rfl, _, _, _, [], [], [], hW', trodAll_mk1 (shut_bool Tryf.underlying4 _), trodAll_mk1 (shut_string Tryf.underlying9 w0), rfl, bel.frame _, fun h => by cases h⟩

theorem laidOut : laidOutB Tryf.pinned.checked.prog = true := by kernel_rfl
theorem stops : Tryf.pinned.checked.prog.stops = Rows.fnCodeOfForeignErrorsAreInternalRow.stops := by kernel_rfl
theorem stopKnobs : Tryf.pinned.checked.prog.stopKnobs = [] := by kernel_rfl
theorem quiet (os : Os) : Stop.quiet Tryf.pinned.checked.prog os := by
  intro k hk
  rw [stopKnobs] at hk
  cases hk

theorem proved : Rows.FnCodeOfForeignErrorsAreInternalToldSaid :=
  Claim7.holds_of_told_any 4 Tryf.f4 _ _ [] _ _ _ (by kernel_rfl) rfl rfl rfl laidOut (by kernel_rfl) rfl ⟨rfl, rfl, rfl, rfl, rfl, rfl, rfl⟩ rfl rfl (by kernel_rfl) (by kernel_rfl) Tryf.func4 (by kernel_rfl)
    (of_decide_eq_true (by kernel_rfl)) (of_decide_eq_true (by kernel_rfl)) stops.symm rfl stopKnobs.symm (by kernel_rfl)
    (by kernel_rfl) (by kernel_rfl) (by kernel_rfl) (by kernel_rfl) (by kernel_rfl) (by kernel_rfl) (by kernel_rfl) (by kernel_rfl) (by kernel_rfl) rfl (by kernel_rfl) rfl rfl
    rfl rfl
    rfl (by kernel_rfl) (by kernel_rfl) (by kernel_rfl) (by decide) (by kernel_rfl)
    (OpenClaim.moreEntering_of (by kernel_rfl) (by kernel_rfl) (by kernel_rfl) (by kernel_rfl) (by kernel_rfl) (by kernel_rfl) (by kernel_rfl) (by kernel_rfl) (by kernel_rfl) (by kernel_rfl))
    ⟨_, WideRow.started_initial, quiet _⟩
    (fun os started _ H enc _ => lifted os started H enc)
#print axioms proved
end Go.Proofs.Qxb6618500aFmt.foreign
