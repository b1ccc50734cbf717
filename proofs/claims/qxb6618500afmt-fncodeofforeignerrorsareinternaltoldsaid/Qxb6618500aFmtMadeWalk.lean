/-
  THE WALK of FnCodeOfGivesTheCodeAnErrorWasMadeWith.
-/
import Derived.Test.Qxb6618500aFmtParts
namespace Go.Proofs.Qxb6618500aFmt
open Go.ChangeShapes Go.WideShapes Go.ChangeAt Go.RowKit

/-- What lies at a new *Error without metadata. -/
structure IsErr (w : World) (b : Nat) (c m : ByteArray) : Prop where
  c0 : w.cell? ⟨b, 0, none⟩ = some (.string c)
  c1 : w.cell? ⟨b, 1, none⟩ = some (.string m)
  c2 : w.cell? ⟨b, 2, none⟩ = some (.slice none 0 0)
  c3 : w.cell? ⟨b, 3, none⟩ = some (.slice none 0 0)
  c4 : w.cell? ⟨b, 4, none⟩ = some .nilIface

theorem IsErr.lt {w : World} {b : Nat} {c m : ByteArray} (h : IsErr w b c m) : b < w.heap.size := World.block_lt_of_cell? _ _ h.c0
theorem IsErr.later {w w' : World} {b : Nat} {c m : ByteArray} (h : IsErr w b c m) (hb : Below w.heap.size w w') : IsErr w' b c m :=
  ⟨cell_later hb h.c0, cell_later hb h.c1, cell_later hb h.c2, cell_later hb h.c3, cell_later hb h.c4⟩

theorem new_Error (c m : ByteArray) (w : World) :
    Calls Tryf.prog 6 #[.string c, .string m] w fun e w' => e = .returned (.pointer (some ⟨w.heap.size, 0, none⟩)) ∧ IsErr w' w.heap.size c m ∧ Below w.heap.size w w' := by
  refine (code_Error c m w).mono ?_
  rintro e w' ⟨rfl, rfl⟩
  refine ⟨rfl, ⟨?_, ?_, ?_, ?_, ?_⟩, (Below.refl _ _).alloc (Nat.le_refl _) _⟩
  all_goals (rw [World.cell?_alloc_new]; rfl)

theorem code_of (b : Nat) (c : ByteArray) (w : World) (hc : w.cell? ⟨b, 0, none⟩ = some (.string c)) :
    Calls Tryf.prog 7 #[.pointer (some ⟨b, 0, none⟩)] w fun e w' => e = .returned (.string c) ∧ Below w.heap.size w w' := by
  refine (ZZCodeOfError_ptr b c w hc).mono ?_
  rintro e w' ⟨rfl, rfl⟩
  exact ⟨rfl, (Below.refl _ _).alloc (Nat.le_refl _) _⟩

theorem meta_of (b : Nat) (c m key value : ByteArray) (w : World) (h : IsErr w b c m) :
    Calls Tryf.prog 8 #[.pointer (some ⟨b, 0, none⟩), .string key, .string value] w fun e w' => e = .returned (.pointer (some ⟨w.heap.size, 0, none⟩)) ∧
      w'.cell? ⟨w.heap.size, 0, none⟩ = some (.string c) ∧ w'.cell? ⟨w.heap.size, 4, none⟩ = some .nilIface ∧ w'.frozen? ⟨w.heap.size, 4, none⟩ = false ∧ Below w.heap.size w w' := by
  refine (with_meta b c m key value w h.c0 h.c1 h.c2 h.c3 h.c4).mono ?_
  rintro e w' ⟨rfl, rfl⟩
  refine ⟨rfl, ?_, ?_, ?_, (((Below.refl _ _).alloc (Nat.le_refl _) _).alloc (by simp) _).alloc (by simp; omega) _⟩
  · rw [World.cell?_alloc_lt _ _ _ (by simp; omega), World.cell?_alloc_lt _ _ _ (by simp), World.cell?_alloc_new]; rfl
  · rw [World.cell?_alloc_lt _ _ _ (by simp; omega), World.cell?_alloc_lt _ _ _ (by simp), World.cell?_alloc_new]; rfl
  · rw [World.frozen?_alloc_old _ _ _ (by simp; omega), World.frozen?_alloc_old _ _ _ (by simp), World.frozen?_alloc_new]

set_option maxHeartbeats 400000 in
theorem made_main (c m key value : ByteArray) (w : World) (h : c.size + m.size + key.size + value.size ≤ 1048576) :
    Calls Tryf.prog 3 #[.string c, .string m, .string key, .string value] w fun e w' => e = .returned (.bool true) ∧ Below w.heap.size w w' := by
  go_enter Tryf.func3, Tryf.ntmps3
  go_wp2_with (go_at_call 5; go_in)
  refine (new_Error c m _).mono ?_
  rintro e w1 ⟨rfl, he1, hb1⟩
  have H1 : Hid (Below w.heap.size w w1) := hb1
  have hz1 := he1.lt
  clear hb1
  go_wp2_with fail
  refine (code_of w.heap.size c _ he1.c0).mono ?_
  rintro e w2 ⟨rfl, hb2⟩
  have he2 := he1.later hb2
  have H2 : Hid (Below w.heap.size w w2) := H1.out.trans (hb2.mono (by omega))
  have hz2 : w.heap.size < w2.heap.size := he2.lt
  clear hb2 he1 H1 hz1
  go_wp2_with fail
  refine (meta_of w.heap.size c m key value _ he2).mono ?_
  rintro e w3 ⟨rfl, hc3, _, _, hb3⟩
  have he3 := he2.later hb3
  have H3 : Hid (Below w.heap.size w w3) := H2.out.trans (hb3.mono (by omega))
  have hz3 : w2.heap.size < w3.heap.size := World.block_lt_of_cell? _ _ hc3
  clear hb3 he2 H2
  go_wp2_with fail
  refine (code_of w2.heap.size c _ hc3).mono ?_
  rintro e w4 ⟨rfl, hb4⟩
  have he4 := he3.later hb4
  have H4 : Hid (Below w.heap.size w w4) := H3.out.trans (hb4.mono (by omega))
  have hz4 : w.heap.size < w4.heap.size := he4.lt
  clear hb4 he3 H3 hc3 hz3 hz2
  go_wp2_with fail
  refine (code_of w.heap.size c _ he4.c0).mono ?_
  rintro e w5 ⟨rfl, hb5⟩
  have H5 : Hid (Below w.heap.size w w5) := H4.out.trans (hb5.mono (by omega))
  clear hb5 he4 H4
  go_wp2
  go_ret
  exact ⟨rfl, H5.out⟩

set_option maxHeartbeats 1000000 in
theorem made_walk (c m key value : ByteArray) (w : World) (hc : c.size ≤ maxLen) (hm : m.size ≤ maxLen) (hk : key.size ≤ maxLen) (hv : value.size ≤ maxLen) :
    Calls Tryf.prog 3 #[.string c, .string m, .string key, .string value] w fun e w' => e = .returned (.bool true) ∧ Below w.heap.size w w' := by
  unfold maxLen at hc hm hk hv
  by_cases h : c.size + m.size + key.size + value.size ≤ 1048576
  · exact made_main c m key value w h
  · have hx : (1048576 : Int) < c.size ∨ ((c.size : Int) ≤ 1048576 ∧ (1048576 : Int) < m.size) ∨ ((c.size : Int) ≤ 1048576 ∧ (m.size : Int) ≤ 1048576 ∧ (1048576 : Int) < (c.size : Int) + m.size) ∨
        ((c.size : Int) + m.size ≤ 1048576 ∧ (1048576 : Int) < key.size) ∨ ((c.size : Int) + m.size ≤ 1048576 ∧ (key.size : Int) ≤ 1048576 ∧ (1048576 : Int) < (c.size : Int) + m.size + key.size) ∨
        ((c.size : Int) + m.size + key.size ≤ 1048576 ∧ (1048576 : Int) < value.size) ∨ ((c.size : Int) + m.size + key.size ≤ 1048576 ∧ (value.size : Int) ≤ 1048576 ∧ (1048576 : Int) < (c.size : Int) + m.size + key.size + value.size) := by omega
    clear h
    rcases hx with h1 | ⟨h1, h2⟩ | ⟨h1, h2, h3⟩ | ⟨h1, h2⟩ | ⟨h1, h2, h3⟩ | ⟨h1, h2⟩ | ⟨h1, h2, h3⟩
    all_goals
      go_enter Tryf.func3, Tryf.ntmps3
      go_wp2
      go_ret
      exact ⟨rfl, Below.refl _ _⟩
end Go.Proofs.Qxb6618500aFmt
