/-
  THE WALK of FnEdnValueStringCutsAtLastCharacterStart.
-/
import Derived.Test.Qxb6618510aParts
namespace Go.Proofs.Qxb6618510a
open Go.ChangeShapes Go.WideShapes Go.ChangeAt Go.RowKit

theorem start_yes (s : ByteArray) (w : World) (h : CanCut s) : Calls Try.prog 6 #[.string s] w fun e w' => e = .returned (.bool true) ∧ w' = w := by
  by_cases hs : s.size ≤ 40
  · exact start_short s w hs
  · refine start_long s true w (by omega) ⟨fun _ => ?_, fun _ => rfl⟩
    rcases h with h | h
    · omega
    · exact h
theorem start_no (s : ByteArray) (w : World) (h : ¬ CanCut s) : Calls Try.prog 6 #[.string s] w fun e w' => e = .returned (.bool false) ∧ w' = w := by
  have hs : ¬ s.size ≤ 40 := fun e => h (.inl e)
  exact start_long s false w (by omega) ⟨(fun e => by cases e), fun e => absurd (.inr e) h⟩

theorem size_join (t u : ByteArray) : (t ++ u).size = t.size + u.size := ByteArray.size_append
theorem gi_join (t u : ByteArray) (i : Nat) (h : i < t.size) : Plain.gi (t ++ u).data.toList i = Plain.gi t.data.toList i := by
  rw [Joins.data_append]
  exact Plain.gi_left _ _ i (by simpa using h)
theorem can_left (t u : ByteArray) (h : CanCut (t ++ u)) : CanCut t := by
  by_cases hs : t.size ≤ 40
  · exact .inl hs
  · rcases h with h | ⟨i, hi, h⟩
    · rw [size_join] at h
      omega
    · exact .inr ⟨i, hi, by rw [← gi_join t u i (by omega)]; exact h⟩
theorem extract_left (t u : ByteArray) (n : Nat) (h : n ≤ t.size) : (t ++ u).extract 0 n = t.extract 0 n := by
  apply WideShapes.bytes_inj
  rw [Lib.extract_data, Lib.extract_data, Joins.data_append]
  simp only [List.drop_zero, Nat.sub_zero]
  exact List.take_append_of_le_length (by simpa using h)
/-- Behind 40 bytes what follows does not show. -/
theorem shown_join (t u : ByteArray) (h : 40 < t.size) : shown (t ++ u) = shown t := by
  have e : Plain.lastStart (t ++ u).data.toList 40 = Plain.lastStart t.data.toList 40 := Plain.lastStart_congr _ _ 40 (fun i hi => gi_join t u i (by omega))
  have hle := Plain.lastStart_le t.data.toList 40
  rw [shown_long t h, shown_long (t ++ u) (by rw [size_join]; omega), e, extract_left t u _ (by omega)]

set_option maxHeartbeats 400000 in
theorem cuts_main (a0 a1 : Int) (t u : ByteArray) (w : World) (h : t.size + u.size ≤ 1048576) :
    Calls Try.prog 3 #[.int .u8 a0, .int .u8 a1, .string t, .string u] w fun e w' => e = .returned (.bool true) ∧ Grown w w' := by
  have hsum : t.size + u.size ≤ 9223372036854775807 := by omega
  go_enter Try.func3, Try.ntmps3
  go_wp2_with (go_at_call 5; go_in)
  have hw : (t ++ u).size ≤ 1048576 := by rw [size_join]; exact h
  have Hw := (show Hid ((t ++ u).size ≤ 1048576) from hw)
  clear hw
  by_cases hC : CanCut (t ++ u)
  · have HC := (show Hid (CanCut (t ++ u)) from hC)
    have HT := (show Hid (CanCut t) from can_left t u hC)
    have HJ := (show Hid (40 < t.size → shown (t ++ u) = shown t) from shown_join t u)
    clear hC
    refine (start_yes (t ++ u) _ HC.out).mono ?_
    rintro e w' ⟨rfl, rfl⟩
    go_wp2_with fail
    refine (edn_string a0 t _ HT.out (by omega)).mono ?_
    rintro e w1 ⟨rfl, rfl⟩
    go_wp2_with fail
    refine (edn_string a1 (t ++ u) _ HC.out Hw.out).mono ?_
    rintro e w2 ⟨rfl, rfl⟩
    go_wp2_with fail
    refine (as_cut t _ HT.out).mono ?_
    rintro e w3 ⟨rfl, rfl⟩
    go_wp2_with fail
    refine (as_cut (t ++ u) _ HC.out).mono ?_
    rintro e w4 ⟨rfl, rfl⟩
    by_cases hl : 40 < t.size
    · rw [HJ.out hl]
      generalize shown t = S
      go_wp2
      go_ret
      exact ⟨rfl, by repeat (first | exact Grown.refl _ | apply Grown.drew | apply Grown.alloc)⟩
    · have hl' : (t.size : Int) ≤ 40 := by omega
      clear hl
      go_wp2
      go_ret
      exact ⟨rfl, by repeat (first | exact Grown.refl _ | apply Grown.drew | apply Grown.alloc)⟩
  · refine (start_no (t ++ u) _ hC).mono ?_
    rintro e w' ⟨rfl, rfl⟩
    clear hC
    go_wp2
    go_ret
    exact ⟨rfl, Grown.refl _⟩

set_option linter.unusedVariables false in
set_option maxHeartbeats 1000000 in
/-- THE WALK, as the shell asks it. -/
theorem cuts_walk (a0 : Int) (a1 : Int) (a2 : ByteArray) (a3 : ByteArray) (w0 : (Lit.int .u8 a0).wf = true) (w1 : (Lit.int .u8 a1).wf = true) (w2 : a2.size ≤ maxLen) (w3 : a3.size ≤ maxLen) (w : World) :
    Calls Try.prog 3 #[.int .u8 a0, .int .u8 a1, .string a2, .string a3] w fun e w' => e = .returned (.bool true) ∧ Grown w w' := by
  unfold maxLen at w2 w3
  by_cases h : a2.size + a3.size ≤ 1048576
  · exact cuts_main a0 a1 a2 a3 w h
  · have hx : (1048576 : Int) < a2.size ∨ ((a2.size : Int) ≤ 1048576 ∧ (1048576 : Int) < a3.size) ∨ ((a2.size : Int) ≤ 1048576 ∧ (a3.size : Int) ≤ 1048576 ∧ (1048576 : Int) < (a2.size : Int) + a3.size) := by omega
    clear h
    rcases hx with h1 | ⟨h1, h2⟩ | ⟨h1, h2, h3⟩
    all_goals
      go_enter Try.func3, Try.ntmps3
      go_wp2
      go_ret
      exact ⟨rfl, Grown.refl _⟩
end Go.Proofs.Qxb6618510a
