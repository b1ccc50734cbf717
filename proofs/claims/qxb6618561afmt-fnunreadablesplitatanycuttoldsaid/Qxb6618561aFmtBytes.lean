/-
  The law's own byte counters: zzStringsBytes, zzUnreadableBytes, zzBytes_..: they return; what the last one's 'true' says of the lines' length.
-/
import Derived.Test.Qxb6618561aFmtProblems
namespace Go.Proofs.Qxb6618561aFmt
open Go.ChangeShapes Go.WideShapes Go.ChangeAt Go.RowKit

/-- A slice of strings of length n: nothing is known of its address where it is empty. -/
def Strs (w : World) (A : Option Addr) (n : Nat) (ss : Nat → ByteArray) : Prop :=
  (∀ j, (ss j).size ≤ 9223372036854775807) ∧ (n = 0 ∨ ∃ b o, A = some ⟨b, o, none⟩ ∧ ∀ j, j < n → w.cell? ⟨b, o + j, none⟩ = some (.string (ss j)))

set_option maxRecDepth 100000 in
set_option maxHeartbeats 1000000 in
theorem strings_bytes (acc : Int) (A : Option Addr) (n c : Nat) (ss : Nat → ByteArray) (w : World) (hS : Strs w A n ss) (hn : n ≤ 9223372036854775807) :
    Calls Tryf.prog 11 #[.int .i64 acc, .slice A n c] w fun e w' => (∃ r, e = .returned (.int .i64 r)) ∧ w' = w := by
  obtain ⟨hz, hS⟩ := hS
  have HZ := (show Hid (∀ j, (ss j).size ≤ 9223372036854775807) from hz)
  clear hz
  by_cases h1 : (1048576 : Int) < acc
  · go_enter Tryf.func11, Tryf.ntmps11
    go_wp2
    go_ret
    exact ⟨⟨_, rfl⟩, rfl⟩
  · by_cases h2 : (1048576 : Int) < (n : Int)
    · go_enter Tryf.func11, Tryf.ntmps11
      go_wp2
      go_ret
      exact ⟨⟨_, rfl⟩, rfl⟩
    · have h1' : acc ≤ 1048576 := by omega
      have h2' : (n : Int) ≤ 1048576 := by omega
      clear h1 h2
      rcases hS with hS | ⟨b, o, rfl, hS⟩
      all_goals
        have HS := (show Hid _ from hS)
        clear hS
        go_enter Tryf.func11, Tryf.ntmps11
        go_wp2
        go_loop [0, 5] (fun a i => ∃ (k : Nat) (x : Int), k ≤ n ∧ i = .int .i64 k ∧ a = .int .i64 x) (fun _ i => n - (intOf i).toNat)
        case atStart => exact ⟨0, _, by omega, rfl, rfl⟩
        case round =>
          obtain ⟨k, x, hk, rfl, rfl⟩ := hrel
          by_cases hlt : k < n
          · first
              | (exfalso; have h0 : n = 0 := HS.out; omega)
              | (have hc := HS.out k hlt
                 have hzz := HZ.out k
                 go_wp2
                 all_goals first
                   | (go_ret; exact ⟨⟨_, rfl⟩, rfl⟩)
                   | (go_round
                      case rel => exact ⟨k + 1, _, by omega, by go_num, rfl⟩
                      case measure => simp [intOf]; omega))
          · go_wp2
            go_ret
            exact ⟨⟨_, rfl⟩, rfl⟩

set_option maxRecDepth 100000 in
set_option maxHeartbeats 1000000 in
theorem unreadable_bytes (A0 A1 A2 : Option Addr) (n0 c0 n1 c1 n2 c2 : Nat) (s1 s2 : Nat → ByteArray) (w : World) (hn : n0 ≤ 1048576) (h1 : Strs w A1 n1 s1) (hn1 : n1 ≤ 9223372036854775807) (h2 : Strs w A2 n2 s2) (hn2 : n2 ≤ 9223372036854775807) :
    Calls Tryf.prog 5 #[.int .i64 0, .slice A0 n0 c0, .slice A1 n1 c1, .slice A2 n2 c2] w fun e w' => (∃ r, e = .returned (.int .i64 r)) ∧ w' = w := by
  have H1 := (show Hid (Strs w A1 n1 s1) from h1)
  have H2 := (show Hid (Strs w A2 n2 s2) from h2)
  clear h1 h2
  go_enter Tryf.func5, Tryf.ntmps5
  go_wp2_with fail
  refine (strings_bytes _ A1 n1 c1 s1 _ H1.out hn1).mono ?_
  rintro e w1 ⟨⟨r, rfl⟩, rfl⟩
  go_wp2_with fail
  refine (strings_bytes _ A2 n2 c2 s2 _ H2.out hn2).mono ?_
  rintro e w2 ⟨⟨r2, rfl⟩, rfl⟩
  go_wp2
  go_ret
  exact ⟨⟨_, rfl⟩, rfl⟩

/-- zzBytes_..: it returns; where it says true the lines are at most 2^20. -/
def Small (n : Nat) : Ending → Prop := fun e => e = .returned (.bool false) ∨ (e = .returned (.bool true) ∧ n ≤ 1048576)

set_option maxRecDepth 100000 in
set_option maxHeartbeats 4000000 in
theorem zz_bytes (A0 A1 A2 : Option Addr) (n0 c0 n1 c1 n2 c2 : Nat) (k3 : Int) (s1 s2 : Nat → ByteArray) (w : World) (h1 : Strs w A1 n1 s1) (h2 : Strs w A2 n2 s2) (hn0 : n0 ≤ 9223372036854775807) (hn1 : n1 ≤ 9223372036854775807) (hn2 : n2 ≤ 9223372036854775807) :
    Calls Tryf.prog 4 #[.slice A0 n0 c0, .slice A1 n1 c1, .slice A2 n2 c2, .int .i64 k3] w fun e w' => Small n0 e ∧ w' = w := by
  obtain ⟨hz1, h1⟩ := h1
  obtain ⟨hz2, h2⟩ := h2
  have HZ1 := (show Hid (∀ j, (s1 j).size ≤ 9223372036854775807) from hz1)
  have HZ2 := (show Hid (∀ j, (s2 j).size ≤ 9223372036854775807) from hz2)
  clear hz1 hz2
  rcases h1 with h1 | ⟨b1, o1, rfl, h1⟩ <;> rcases h2 with h2 | ⟨b2, o2, rfl, h2⟩
  all_goals
    have HS1 := (show Hid _ from h1)
    have HS2 := (show Hid _ from h2)
    clear h1 h2
    go_enter Tryf.func4, Tryf.ntmps4
    go_wp2
    all_goals first
      | (go_ret; exact ⟨.inl rfl, rfl⟩)
      | skip
    go_loop [9, 10] (fun z i => ∃ (k : Nat) (x : Int), k ≤ n1 ∧ i = .int .i64 k ∧ z = .int .i64 x ∧ 0 ≤ x ∧ x ≤ 1048576) (fun _ i => n1 - (intOf i).toNat)
    case atStart => exact ⟨0, _, by omega, rfl, rfl, by omega, by omega⟩
    case round =>
      obtain ⟨k, x, hk, rfl, rfl, hx0, hx1⟩ := hrel
      by_cases hlt : k < n1
      · first
          | (exfalso; have h0 : n1 = 0 := HS1.out; omega)
          | (have hc := HS1.out k hlt
             have hzz := HZ1.out k
             go_wp2
             all_goals first
               | (go_ret; exact ⟨.inl rfl, rfl⟩)
               | (go_round
                  case rel => exact ⟨k + 1, _, by omega, by go_num, rfl, by omega, by omega⟩
                  case measure => simp [intOf]; omega))
      · go_wp2
        all_goals first
          | (go_ret; exact ⟨.inl rfl, rfl⟩)
          | skip
        go_loop [9, 11] (fun z i => ∃ (k : Nat) (x : Int), k ≤ n2 ∧ i = .int .i64 k ∧ z = .int .i64 x ∧ 0 ≤ x ∧ x ≤ 1048576) (fun _ i => n2 - (intOf i).toNat)
        case atStart => exact ⟨0, _, by omega, rfl, rfl, by omega, by omega⟩
        case round =>
          obtain ⟨k2, x2, hk2, rfl, rfl, hx20, hx21⟩ := hrel
          by_cases hlt2 : k2 < n2
          · first
              | (exfalso; have h0 : n2 = 0 := HS2.out; omega)
              | (have hc := HS2.out k2 hlt2
                 have hzz := HZ2.out k2
                 go_wp2
                 all_goals first
                   | (go_ret; exact ⟨.inl rfl, rfl⟩)
                   | (go_round
                      case rel => exact ⟨k2 + 1, _, by omega, by go_num, rfl, by omega, by omega⟩
                      case measure => simp [intOf]; omega))
          · go_wp2
            go_ret
            exact ⟨.inr ⟨rfl, by omega⟩, rfl⟩
end Go.Proofs.Qxb6618561aFmt
