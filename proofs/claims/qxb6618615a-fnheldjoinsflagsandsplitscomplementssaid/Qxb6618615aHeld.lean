/-
  ZZnewActorFlags and ZZheld.
-/
import Derived.Test.Qxb6618615aRows
import Derived.WalkKit
import Derived.ProofKit
namespace Go.Proofs.Qxb6618615a
open Go.ChangeShapes Go.WideShapes Go.ChangeAt Go.RowKit

theorem grown_trans {a b c : World} (h : Grown a b) (g : Grown b c) : Grown a c :=
  ⟨World.keptBut_trans h.1 g.1, fun x => (g.2.1 x).trans (h.2.1 x), Nat.le_trans h.2.2 g.2.2⟩

/-- An actor at block B with the three flags. -/
structure Flags (w : World) (B : Nat) (s p t : Bool) : Prop where
  s : w.cell? ⟨B, 16, none⟩ = some (.bool s)
  p : w.cell? ⟨B, 18, none⟩ = some (.bool p)
  t : w.cell? ⟨B, 19, none⟩ = some (.bool t)

theorem new_flags (s p t : Bool) (w : World) :
    Calls Try.prog 9 #[.bool s, .bool p, .bool t] w fun e w' => e = .returned (.pointer (some ⟨w.heap.size, 0, none⟩)) ∧ Flags w' w.heap.size s p t ∧ Grown w w' := by
  go_enter Try.func9, Try.ntmps9
  go_wp2
  go_ret
  refine ⟨rfl, ⟨?_, ?_, ?_⟩, by repeat (first | exact Grown.refl _ | apply Grown.drew | apply Grown.alloc)⟩ <;> (rw [World.cell?_alloc_new]; rfl)

theorem held_any (s p t : Bool) (B : Nat) (w : World) (h : Flags w B s p t) :
    Calls Try.prog 26 #[.pointer (some ⟨B, 0, none⟩)] w fun e w' => e = .returned (.bool (s || p || t)) ∧ w' = w := by
  obtain ⟨h1, h2, h3⟩ := h
  go_enter Try.func26, Try.ntmps26
  cases s <;> cases p <;> cases t <;> (go_wp2; go_ret; exact ⟨rfl, rfl⟩)

theorem zz_held (s p t : Bool) (B : Nat) (w : World) (h : Flags w B s p t) :
    Calls Try.prog 8 #[.pointer (some ⟨B, 0, none⟩)] w fun e w' => e = .returned (.bool (s || p || t)) ∧ w' = w := by
  go_enter Try.func8, Try.ntmps8
  go_wp2_with fail
  refine (held_any s p t B _ h).mono ?_
  rintro e w' ⟨rfl, rfl⟩
  go_wp2
  go_ret
  exact ⟨rfl, rfl⟩
end Go.Proofs.Qxb6618615a
