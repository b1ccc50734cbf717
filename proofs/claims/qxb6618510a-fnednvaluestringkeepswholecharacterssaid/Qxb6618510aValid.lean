/-
  zzValidUTF8's contract: it answers as the plain law's 'valid'.
-/
import Derived.Test.Qxb6618510aParts
namespace Go.Proofs.Qxb6618510a
open Go.ChangeShapes Go.WideShapes Go.ChangeAt Go.RowKit

theorem bad_at (s : ByteArray) (k : Nat) (h : k < s.size) (hv : Plain.valid (s.data.toList.drop k) = Plain.valid s.data.toList) (h0 : Plain.chr (s.data.toList.drop k) = 0) : false = Plain.valid s.data.toList := by
  rw [← hv, Plain.valid_bad _ ?_ h0]
  intro e
  have := congrArg List.length e
  simp at this
  omega
theorem good_at (s : ByteArray) (k n : Nat) (h : k < s.size) (hv : Plain.valid (s.data.toList.drop k) = Plain.valid s.data.toList) (h0 : Plain.chr (s.data.toList.drop k) = n) (hn : 0 < n) : Plain.valid (s.data.toList.drop (k + n)) = Plain.valid s.data.toList := by
  rw [← hv, Plain.valid_good (s.data.toList.drop k) ?_ (by omega), h0, List.drop_drop]
  intro e
  have := congrArg List.length e
  simp at this
  omega

set_option maxRecDepth 100000 in
set_option maxHeartbeats 4000000 in
theorem valid_any (s : ByteArray) (w : World) (hs : s.size ≤ 1048576) : Calls Try.prog 10 #[.string s] w fun e w' => e = .returned (.bool (Plain.valid s.data.toList)) ∧ w' = w := by
  go_enter Try.func10, Try.ntmps10
  go_wp2
  go_loop [3] (fun v => ∃ k : Nat, k ≤ s.size ∧ v = .int .i64 k ∧ Hid (Plain.valid (s.data.toList.drop k) = Plain.valid s.data.toList)) (fun v => s.size - (intOf v).toNat)
  case atStart => exact ⟨0, by omega, rfl, rfl⟩
  case round =>
    obtain ⟨k, hk, rfl, HV⟩ := hrel
    by_cases hlt : k < s.size
    · have GL : Hid ((s.data.toList.drop k).length = s.size - k) := (show _ = _ by simp)
      have G0 : Hid (Plain.gi (s.data.toList.drop k) 0 = (s[k].toNat : Int)) := (show _ = _ by rw [Plain.gi_drop, Nat.add_zero, gi_at s k hlt])
      have G1 : Hid (∀ h : k + 1 < s.size, Plain.gi (s.data.toList.drop k) 1 = (s[k + 1].toNat : Int)) := (show ∀ h : k + 1 < s.size, _ = _ from fun h => by rw [Plain.gi_drop, gi_at s _ h])
      have G2 : Hid (∀ h : k + 2 < s.size, Plain.gi (s.data.toList.drop k) 2 = (s[k + 2].toNat : Int)) := (show ∀ h : k + 2 < s.size, _ = _ from fun h => by rw [Plain.gi_drop, gi_at s _ h])
      have G3 : Hid (∀ h : k + 3 < s.size, Plain.gi (s.data.toList.drop k) 3 = (s[k + 3].toNat : Int)) := (show ∀ h : k + 3 < s.size, _ = _ from fun h => by rw [Plain.gi_drop, gi_at s _ h])
      have R0 := s[k].toNat_lt
      go_wp2
      all_goals try (go_rounds 3)
      all_goals first
        | (go_ret
           refine ⟨ret_bool (bad_at s k hlt HV.out ?_), rfl⟩
           have gl := GL.out
           have g0 := G0.out
           try (have g1 := G1.out (by omega))
           try (have g2 := G2.out (by omega))
           try (have g3 := G3.out (by omega))
           clear GL G0 G1 G2 G3 HV
           try simp only [beq_iff_eq, beq_eq_false_iff_ne] at *
           unfold Plain.chr
           rw [if_neg (by omega), if_neg (by omega), if_neg (by omega), if_neg (by omega)])
        | (go_round
           case measure => simp [intOf]; omega
           case rel =>
             refine ⟨k + 1, by omega, by go_num, good_at s k 1 hlt HV.out ?_ (by omega)⟩
             have gl := GL.out
             have g0 := G0.out
             try (have g1 := G1.out (by omega))
             try (have g2 := G2.out (by omega))
             try (have g3 := G3.out (by omega))
             clear GL G0 G1 G2 G3 HV
             unfold Plain.chr
             rw [if_pos (by omega)])
        | (go_round
           case measure => simp [intOf]; omega
           case rel =>
             refine ⟨k + 2, by omega, by go_num, good_at s k 2 hlt HV.out ?_ (by omega)⟩
             have gl := GL.out
             have g0 := G0.out
             try (have g1 := G1.out (by omega))
             try (have g2 := G2.out (by omega))
             try (have g3 := G3.out (by omega))
             clear GL G0 G1 G2 G3 HV
             try simp only [beq_iff_eq, beq_eq_false_iff_ne] at *
             unfold Plain.chr
             rw [if_neg (by omega), if_pos (by omega)])
        | (go_round
           case measure => simp [intOf]; omega
           case rel =>
             refine ⟨k + 3, by omega, by go_num, good_at s k 3 hlt HV.out ?_ (by omega)⟩
             have gl := GL.out
             have g0 := G0.out
             try (have g1 := G1.out (by omega))
             try (have g2 := G2.out (by omega))
             try (have g3 := G3.out (by omega))
             clear GL G0 G1 G2 G3 HV
             try simp only [beq_iff_eq, beq_eq_false_iff_ne] at *
             unfold Plain.chr
             rw [if_neg (by omega), if_neg (by omega), if_pos (by omega)])
        | (go_round
           case measure => simp [intOf]; omega
           case rel =>
             refine ⟨k + 4, by omega, by go_num, good_at s k 4 hlt HV.out ?_ (by omega)⟩
             have gl := GL.out
             have g0 := G0.out
             try (have g1 := G1.out (by omega))
             try (have g2 := G2.out (by omega))
             try (have g3 := G3.out (by omega))
             clear GL G0 G1 G2 G3 HV
             try simp only [beq_iff_eq, beq_eq_false_iff_ne] at *
             unfold Plain.chr
             rw [if_neg (by omega), if_neg (by omega), if_neg (by omega), if_pos (by omega)])
    · go_wp2
      go_ret
      refine ⟨ret_bool ?_, rfl⟩
      rw [← HV.out, List.drop_eq_nil_of_le (by simp; omega)]
      rfl
end Go.Proofs.Qxb6618510a
