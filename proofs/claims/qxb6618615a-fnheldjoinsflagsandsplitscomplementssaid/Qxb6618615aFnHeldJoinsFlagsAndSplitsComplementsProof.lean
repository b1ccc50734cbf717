/-
  'Rows.FnHeldJoinsFlagsAndSplitsComplementsSaid', proved: the frame is the seed's shell; the callees: Qxb6618615aHeld.lean.
-/
import Derived.Test.Qxb6618615aHeld
import Derived.WalkKit
import Derived.ProofKit
import Derived.OpenShut
import Derived.ShutString
namespace Go.Proofs.Qxb6618615a.fnHeldJoinsFlagsAndSplitsComplements
open Go.ChangeShapes Go.WideShapes Go.ChangeAt Go.RowKit
open Go.ChangeMaps (open_string shut_string)
set_option linter.unusedVariables false      -- a walk need not use every 'w<i>' (that an integer argument fits its kind)

theorem own : ownKnob Try.prog.godebug = none := by kernel_rfl

/-! ### The walk: the law out of the callees' contracts; the six flags are decided ahead of the third call. -/
set_option maxHeartbeats 8000000 in
theorem walk (a0 : Bool) (a1 : Bool) (a2 : Bool) (a3 : Bool) (a4 : Bool) (a5 : Bool) (w : World) :
    Calls Try.prog 3 #[.bool a0, .bool a1, .bool a2, .bool a3, .bool a4, .bool a5] w fun e w' => e = .returned (.bool true) ∧ Grown w w' := by
  go_enter Try.func3, Try.ntmps3
  go_wp2_with fail
  refine (new_flags a0 a1 a2 _).mono ?_
  rintro e w1 ⟨rfl, f1, g1⟩
  have F1 := (show Hid (Flags w1 w.heap.size a0 a1 a2) from f1)
  have G1 := (show Hid (Grown w w1) from g1)
  clear f1 g1
  go_wp2_with fail
  refine (zz_held _ _ _ _ _ F1.out).mono ?_
  rintro e w1' ⟨rfl, rfl⟩
  clear F1
  go_wp2_with fail
  refine (new_flags a3 a4 a5 _).mono ?_
  rintro e w2 ⟨rfl, f2, g2⟩
  have F2 := (show Hid (Flags w2 _ a3 a4 a5) from f2)
  have G2 := (show Hid (Grown w w2) from grown_trans G1.out g2)
  clear f2 g2 G1
  go_wp2_with fail
  refine (zz_held _ _ _ _ _ F2.out).mono ?_
  rintro e w2' ⟨rfl, rfl⟩
  clear F2
  cases a0 <;> cases a1 <;> cases a2 <;> cases a3 <;> cases a4 <;> cases a5 <;>
  (go_wp2_with fail
   refine (new_flags _ _ _ _).mono ?_
   rintro e w3 ⟨rfl, f3, g3⟩
   have F3 := (show Hid (Flags w3 _ _ _ _) from f3)
   have G3 := (show Hid (Grown w w3) from grown_trans G2.out g3)
   clear f3 g3 G2
   go_wp2_with fail
   refine (zz_held _ _ _ _ _ F3.out).mono ?_
   rintro e w3' ⟨rfl, rfl⟩
   clear F3
   go_wp2_with fail
   refine (new_flags _ _ _ _).mono ?_
   rintro e w4 ⟨rfl, f4, g4⟩
   have F4 := (show Hid (Flags w4 _ _ _ _) from f4)
   have G4 := (show Hid (Grown w w4) from grown_trans G3.out g4)
   clear f4 g4 G3
   go_wp2_with fail
   refine (zz_held _ _ _ _ _ F4.out).mono ?_
   rintro e w4' ⟨rfl, rfl⟩
   clear F4
   go_wp2
   go_ret
   exact ⟨rfl, G4.out⟩)

/-! ### The row's step -/
set_option maxRecDepth 100000 in
theorem lifted (os : Os) (started : os.Started) (H : Type) (enc : TypeId × Value → H) :
    ReturnsInHanded {} Try.checked os 3 .any (Rows.fnHeldJoinsFlagsAndSplitsComplementsSpec.pre6 enc Try.prog Try.f3 Rows.fnHeldJoinsFlagsAndSplitsComplementsRow.domain false) (Rows.fnHeldJoinsFlagsAndSplitsComplementsSpec.post enc Try.prog Try.f3 false true false false) := by
  refine returnsInHanded_of_change (C := Try.checked) own started (by kernel_rfl) Try.func3
    (ChangeSpec.witness6 (enc := enc) (C := Try.checked) false ⟨#[], #[.bool false, .bool false, .bool false, .bool false, .bool false, .bool false], []⟩ 8 (by kernel_rfl) (by kernel_rfl) (by kernel_rfl) (by kernel_rfl)) ?_
  intro W base args ds gs before hval0 hW hcnd _
  have hval : ∀ (j : Nat) t v, Try.f3.params[j]? = some t → args[j]? = some v → Value.okWide Try.prog W .any base t v := hval0
  have hW' := hW
  obtain ⟨p, q, hA0, hV, rfl, hfz, hnd⟩ := hW
  have hA : DataW.TrodAll enc Try.prog W 0 (fun _ => true) true Try.f3.params.toList args.toList ds p := hA0
  rw [Try.params3] at hA hval
  obtain ⟨v0, vs0, d0, ds0, p0, q0, hargs, rfl, rfl, h0, r0⟩ := trodAll_cons hA
  obtain ⟨v1, vs1, d1, ds1, p1, q1, rfl, rfl, rfl, h1, r1⟩ := trodAll_cons r0
  obtain ⟨v2, vs2, d2, ds2, p2, q2, rfl, rfl, rfl, h2, r2⟩ := trodAll_cons r1
  obtain ⟨v3, vs3, d3, ds3, p3, q3, rfl, rfl, rfl, h3, r3⟩ := trodAll_cons r2
  obtain ⟨v4, vs4, d4, ds4, p4, q4, rfl, rfl, rfl, h4, r4⟩ := trodAll_cons r3
  obtain ⟨v5, vs5, d5, ds5, p5, q5, rfl, rfl, rfl, h5, r5⟩ := trodAll_cons r4
  obtain ⟨rfl, rfl, rfl⟩ := trodAll_nil r5
  obtain rfl : args = #[v0, v1, v2, v3, v4, v5] := by cases args; simp_all
  obtain ⟨rfl, rfl⟩ := trodVars_none hV
  obtain ⟨a0, rfl, rfl, rfl⟩ := open_bool Try.underlying4 (hval 0 4 v0 rfl rfl) h0
  obtain ⟨a1, rfl, rfl, rfl⟩ := open_bool Try.underlying4 (hval 1 4 v1 rfl rfl) h1
  obtain ⟨a2, rfl, rfl, rfl⟩ := open_bool Try.underlying4 (hval 2 4 v2 rfl rfl) h2
  obtain ⟨a3, rfl, rfl, rfl⟩ := open_bool Try.underlying4 (hval 3 4 v3 rfl rfl) h3
  obtain ⟨a4, rfl, rfl, rfl⟩ := open_bool Try.underlying4 (hval 4 4 v4 rfl rfl) h4
  obtain ⟨a5, rfl, rfl, rfl⟩ := open_bool Try.underlying4 (hval 5 4 v5 rfl rfl) h5
  clear hA0 hval0
  simp only [List.append_nil] at hW'
  refine (walk a0 a1 a2 a3 a4 a5 W).mono fun e W' ⟨he, hg⟩ => ?_
  subst he
  exact ⟨_, rfl, post_of_same (pa := []) (pv := []) hW' (fun _ _ _ => (trodAll_cons_mk (shut_bool Try.underlying4 _) trodAll_mk0)) (fun sp _ => (trodAll_cons_mk (shut_bool Try.underlying4 _) (trodAll_cons_mk (shut_bool Try.underlying4 _) (trodAll_cons_mk (shut_bool Try.underlying4 _) (trodAll_cons_mk (shut_bool Try.underlying4 _) (trodAll_cons_mk (shut_bool Try.underlying4 _) (trodAll_cons_mk (shut_bool Try.underlying4 _) trodAll_mk0))))))) (fun _ _ => rfl) rfl
    (hg.frame _) hg.2.1 (ok_one (by kernel_rfl) rfl (okWide_bool_mk Try.underlying4 _))⟩

theorem over : Rows.fnHeldJoinsFlagsAndSplitsComplementsRow.holds Try.pinned (OpenSpec.ofChange Rows.fnHeldJoinsFlagsAndSplitsComplementsSpec) :=
  OpenClaim.holds_of_wide 3 Try.f3 rfl rfl rfl rfl rfl rfl rfl ⟨rfl, rfl, rfl, rfl, rfl⟩ rfl rfl rfl rfl rfl (by kernel_rfl) Try.func3 (by kernel_rfl)
    (of_decide_eq_true (by kernel_rfl)) (by unfold Func.isWrapper; first | (rw [if_pos (by decide +kernel)]; kernel_rfl) | (rw [if_neg (by decide +kernel)]; exact ⟨rfl, rfl⟩))
    (fun os started H enc _ => lifted os started H enc)

/-- The statement. -/
theorem proved : Rows.FnHeldJoinsFlagsAndSplitsComplementsSaid :=
  over
#print axioms proved
end Go.Proofs.Qxb6618615a.fnHeldJoinsFlagsAndSplitsComplements
