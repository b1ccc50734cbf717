/-
  THE CALLEES' CONTRACTS of this seat.
-/
import Derived.Test.Qxb6618510aRows
import Derived.Test.Qxb6618510aPlain
import Derived.WalkKit
import Derived.WalkSpells
import Derived.ProofKit
import Derived.Handy
import Derived.Lib.Strings
import Derived.Lib.SmallJoins
import Derived.Lib.RabinKarpLaws
namespace Go.Proofs.Qxb6618510a
open Go.ChangeShapes Go.WideShapes Go.ChangeAt Go.RowKit

theorem gi_at (s : ByteArray) (k : Nat) (h : k < s.size) : Plain.gi s.data.toList k = (s[k].toNat : Int) := by
  unfold Plain.gi
  rw [List.getD_eq_getElem?_getD, byte_at s k h]
  rfl

theorem and_rs : ∀ b : Fin 256, (bits .and .u8 (b.val : Int) 192 != 128) = Plain.rs (b.val : Int) := by decide +kernel
theorem and_rs_u8 (b : UInt8) : (bits .and .u8 (b.toNat : Int) 192 != 128) = Plain.rs (b.toNat : Int) := and_rs ⟨b.toNat, b.toNat_lt⟩

theorem ret_bool {p q : Bool} (h : p = q) : Ending.returned (.bool p) = .returned (.bool q) := by rw [h]

theorem rune_start (b : UInt8) (w : World) : Calls Try.prog 14 #[.int .u8 (b.toNat : Int)] w fun e w' => e = .returned (.bool (Plain.rs (b.toNat : Int))) ∧ w' = w := by
  have h := and_rs_u8 b
  go_enter Try.func14, Try.ntmps14
  go_wp2
  go_ret
  exact ⟨rfl, rfl⟩
theorem zz_rune_start (b : UInt8) (w : World) : Calls Try.prog 11 #[.int .u8 (b.toNat : Int)] w fun e w' => e = .returned (.bool (Plain.rs (b.toNat : Int))) ∧ w' = w := by
  have h := and_rs_u8 b
  go_enter Try.func11, Try.ntmps11
  go_wp2
  go_ret
  exact ⟨rfl, rfl⟩

/-- cut(s, 40), s at most 40 bytes long. -/
theorem cut_short (s : ByteArray) (w : World) (h : s.size ≤ 40) : Calls Try.prog 13 #[.string s, .int .i64 40] w fun e w' => e = .returned (.string s) ∧ w' = w := by
  go_enter Try.func13, Try.ntmps13
  go_wp2
  go_ret
  exact ⟨rfl, rfl⟩

def dots : ByteArray := ⟨#[46, 46, 46]⟩

set_option maxRecDepth 100000 in
set_option maxHeartbeats 400000 in
/-- cut(s, 40), s longer, with a character's start among its first 41 bytes. -/
theorem cut_long (s : ByteArray) (n : Nat) (w : World) (h : 40 < s.size) (hm : s.size ≤ 1048576) (hn : n ≤ 40) (hr : Plain.rs (Plain.gi s.data.toList n) = true) (hno : ∀ j, n < j → j ≤ 40 → Plain.rs (Plain.gi s.data.toList j) = false) :
    Calls Try.prog 13 #[.string s, .int .i64 40] w fun e w' => e = .returned (.string (s.extract 0 n ++ dots)) ∧ w' = w := by
  have h' : (40 : Int) < (s.size : Int) := by omega
  clear hm h
  have Hr : Hid (Plain.rs (Plain.gi s.data.toList n) = true) := hr
  have Hno : Hid (∀ j, n < j → j ≤ 40 → Plain.rs (Plain.gi s.data.toList j) = false) := hno
  clear hr hno
  go_enter Try.func13, Try.ntmps13
  go_wp2
  go_loop [1] (fun v => ∃ k : Nat, n ≤ k ∧ k ≤ 40 ∧ v = .int .i64 k) (fun v => (intOf v).toNat)
  case atStart => exact ⟨40, hn, by omega, rfl⟩
  case round =>
    obtain ⟨k, hk1, hk2, rfl⟩ := hrel
    have hks : k < s.size := by omega
    by_cases hlt : n < k
    · have hx : Hid (Plain.rs (s[k].toNat : Int) = false) := by rw [← gi_at s k hks]; exact Hno.out k hlt hk2
      go_wp2_with (go_at_call 14; refine (rune_start _ _).mono ?_; rintro e w' ⟨rfl, rfl⟩; rw [hx.out])
      go_round
      case rel => exact ⟨k - 1, by omega, by omega, by rw [show ((k - 1 : Nat) : Int) = (k : Int) - 1 by omega]⟩
      case measure => simp [intOf]; omega
    · have hkn : k = n := by omega
      have hx : Hid (Plain.rs (s[k].toNat : Int) = true) := by
        subst hkn
        rw [← gi_at s k hks]; exact Hr.out
      have HK := (show Hid (k = n) from hkn)
      clear hkn
      go_wp2_with (go_at_call 14; refine (rune_start _ _).mono ?_; rintro e w' ⟨rfl, rfl⟩; rw [hx.out])
      go_ret
      exact ⟨by rw [← HK.out]; rfl, rfl⟩

/-- What String shows of a text: n: where it is cut, if it is long. -/
def shown (t : ByteArray) : ByteArray := if t.size ≤ 40 then t else t.extract 0 (Plain.lastStart t.data.toList 40) ++ dots
theorem shown_short (t : ByteArray) (h : t.size ≤ 40) : shown t = t := by unfold shown; rw [if_pos h]
theorem shown_long (t : ByteArray) (h : 40 < t.size) : shown t = t.extract 0 (Plain.lastStart t.data.toList 40) ++ dots := by unfold shown; rw [if_neg (by omega)]
/-- There is a place to cut. -/
def CanCut (t : ByteArray) : Prop := t.size ≤ 40 ∨ ∃ i, i ≤ 40 ∧ Plain.rs (Plain.gi t.data.toList i) = true

theorem cut_any (s : ByteArray) (w : World) (h : CanCut s) (hm : s.size ≤ 1048576) : Calls Try.prog 13 #[.string s, .int .i64 40] w fun e w' => e = .returned (.string (shown s)) ∧ w' = w := by
  by_cases hs : s.size ≤ 40
  · rw [shown_short s hs]
    exact cut_short s w hs
  · have h' : 40 < s.size := by omega
    rw [shown_long s h']
    rcases h with h | h
    · omega
    · exact cut_long s _ w h' hm (Plain.lastStart_le _ _) (Plain.lastStart_rs _ _ h) (Plain.lastStart_no _ _)

/-- ZZednValueString(kind, text). -/
theorem edn_string (k : Int) (t : ByteArray) (w : World) (h : CanCut t) (hm : t.size ≤ 1048576) :
    Calls Try.prog 7 #[.int .u8 k, .string t] w fun e w' => e = .returned (.string (shown t)) ∧ w' = w.alloc (.cells #[.int .u8 k, .string t] 30) := by
  have HC := (show Hid (CanCut t) from h)
  clear h
  go_enter Try.func7, Try.ntmps7
  go_wp2_with (go_at_call 12; go_in)
  refine (cut_any t _ HC.out hm).mono ?_
  rintro e w' ⟨rfl, rfl⟩
  go_wp2
  go_ret
  exact ⟨rfl, rfl⟩

set_option maxRecDepth 100000 in
set_option maxHeartbeats 400000 in
/-- zzStartWithin41 of a long text. -/
theorem start_long (s : ByteArray) (q : Bool) (w : World) (h : 40 < s.size) (hq : q = true ↔ ∃ i, i ≤ 40 ∧ Plain.rs (Plain.gi s.data.toList i) = true) :
    Calls Try.prog 6 #[.string s] w fun e w' => e = .returned (.bool q) ∧ w' = w := by
  have HQ := (show Hid (q = true ↔ ∃ i, i ≤ 40 ∧ Plain.rs (Plain.gi s.data.toList i) = true) from hq)
  clear hq
  go_enter Try.func6, Try.ntmps6
  go_wp2
  go_loop [3] (fun v => ∃ k : Nat, k ≤ 41 ∧ v = .int .i64 k ∧ Hid (∀ j, j < k → Plain.rs (Plain.gi s.data.toList j) = false)) (fun v => 41 - (intOf v).toNat)
  case atStart => exact ⟨0, by omega, rfl, fun j hj => by omega⟩
  case round =>
    obtain ⟨k, hk, rfl, hno⟩ := hrel
    by_cases hlt : k ≤ 40
    · have hks : k < s.size := by omega
      have hg := gi_at s k hks
      have HG := (show Hid (Plain.gi s.data.toList k = (s[k].toNat : Int)) from hg)
      clear hg
      cases hr : Plain.rs (s[k].toNat : Int) with
      | true =>
        have HR := (show Hid (Plain.rs (s[k].toNat : Int) = true) from hr)
        clear hr
        go_wp2_with (go_at_call 11; refine (zz_rune_start _ _).mono ?_; rintro e w' ⟨rfl, rfl⟩; rw [HR.out])
        go_ret
        exact ⟨ret_bool (HQ.out.2 ⟨k, hlt, by rw [HG.out]; exact HR.out⟩).symm, rfl⟩
      | false =>
        have HR := (show Hid (Plain.rs (s[k].toNat : Int) = false) from hr)
        clear hr
        go_wp2_with (go_at_call 11; refine (zz_rune_start _ _).mono ?_; rintro e w' ⟨rfl, rfl⟩; rw [HR.out])
        go_round
        case rel =>
          refine ⟨k + 1, by omega, by go_num, fun j hj => ?_⟩
          by_cases hjk : j = k
          · subst hjk; rw [HG.out]; exact HR.out
          · exact hno.out j (by omega)
        case measure => simp [intOf]; omega
    · go_wp2
      go_ret
      refine ⟨ret_bool ?_, rfl⟩
      cases hqq : q with
      | false => rfl
      | true =>
        obtain ⟨i, hi, hr⟩ := HQ.out.1 hqq
        rw [hno.out i (by omega)] at hr
        cases hr
theorem start_short (s : ByteArray) (w : World) (h : s.size ≤ 40) : Calls Try.prog 6 #[.string s] w fun e w' => e = .returned (.bool true) ∧ w' = w := by
  go_enter Try.func6, Try.ntmps6
  go_wp2
  go_ret
  exact ⟨rfl, rfl⟩

/-- zzShownAsCut at what String shows of a short text. -/
theorem as_cut_short (s : ByteArray) (w : World) (h : s.size ≤ 40) : Calls Try.prog 8 #[.string s, .string s] w fun e w' => e = .returned (.bool true) ∧ w' = w := by
  go_enter Try.func8, Try.ntmps8
  go_wp2
  go_ret
  exact ⟨rfl, rfl⟩

set_option maxRecDepth 100000 in
set_option maxHeartbeats 400000 in
theorem as_cut_long (s a p : ByteArray) (n : Nat) (w : World) (h : 40 < s.size) (hn : n ≤ 40) (ha : a.size = n + 3) (hr : Plain.rs (Plain.gi s.data.toList n) = true) (hno : ∀ j, n < j → j ≤ 40 → Plain.rs (Plain.gi s.data.toList j) = false)
    (h1 : a.extract n (n + 3) = ⟨#[46, 46, 46]⟩) (h2 : a.extract 0 n = p) (h3 : s.extract 0 n = p) (h4 : p.size = n) :
    Calls Try.prog 8 #[.string s, .string a] w fun e w' => e = .returned (.bool true) ∧ w' = w := by
  have hks : n < s.size := by omega
  have hx : Hid (Plain.rs (s[n].toNat : Int) = true) := by rw [← gi_at s n hks]; exact hr
  have Hno : Hid (∀ j, n < j → j ≤ 40 → Plain.rs (Plain.gi s.data.toList j) = false) := hno
  clear hr hno
  go_enter Try.func8, Try.ntmps8
  go_wp2_with (go_at_call 11; refine (zz_rune_start _ _).mono ?_; rintro e w' ⟨rfl, rfl⟩; rw [hx.out])
  go_loop [7] (fun v => ∃ k : Nat, n < k ∧ k ≤ 41 ∧ v = .int .i64 k) (fun v => 41 - (intOf v).toNat)
  case atStart => exact ⟨n + 1, by omega, by omega, by go_num⟩
  case round =>
    obtain ⟨k, hk1, hk2, rfl⟩ := hrel
    by_cases hlt : k ≤ 40
    · have hkk : k < s.size := by omega
      have hy : Hid (Plain.rs (s[k].toNat : Int) = false) := by rw [← gi_at s k hkk]; exact Hno.out k hk1 hlt
      go_wp2_with (go_at_call 11; refine (zz_rune_start _ _).mono ?_; rintro e w' ⟨rfl, rfl⟩; rw [hy.out])
      go_round
      case rel => exact ⟨k + 1, by omega, by omega, by go_num⟩
      case measure => simp [intOf]; omega
    · go_wp2
      go_ret
      exact ⟨rfl, rfl⟩

theorem size_dots : dots.size = 3 := rfl
theorem extract_join (a b : ByteArray) (n : Nat) (h : a.size = n) : (a ++ b).extract 0 n = a := by
  apply WideShapes.bytes_inj
  rw [Lib.extract_data, Joins.data_append, Nat.sub_zero, List.drop_zero]
  have : a.data.toList.length = n := by simpa using h
  rw [← this, List.take_left]
theorem extract_join_right (a b : ByteArray) (n m : Nat) (h : a.size = n) (hb : b.size = m) : (a ++ b).extract n (n + m) = b := by
  apply WideShapes.bytes_inj
  rw [Lib.extract_data, Joins.data_append]
  have e1 : a.data.toList.length = n := by simpa using h
  have e2 : b.data.toList.length = m := by simpa using hb
  rw [← e1, List.drop_left, ← e2, Nat.add_sub_cancel_left, List.take_length]

/-- zzShownAsCut(t, what String shows of t). -/
theorem as_cut (t : ByteArray) (w : World) (h : CanCut t) : Calls Try.prog 8 #[.string t, .string (shown t)] w fun e w' => e = .returned (.bool true) ∧ w' = w := by
  by_cases hs : t.size ≤ 40
  · rw [shown_short t hs]
    exact as_cut_short t w hs
  · have h' : 40 < t.size := by omega
    rw [shown_long t h']
    have hx : ∃ i, i ≤ 40 ∧ Plain.rs (Plain.gi t.data.toList i) = true := by
      rcases h with h | h
      · omega
      · exact h
    have hle := Plain.lastStart_le t.data.toList 40
    have hz : (t.extract 0 (Plain.lastStart t.data.toList 40)).size = Plain.lastStart t.data.toList 40 := by simp [ByteArray.size_extract]; omega
    exact as_cut_long t _ (t.extract 0 (Plain.lastStart t.data.toList 40)) _ w h' hle (by rw [ByteArray.size_append, hz]; rfl) (Plain.lastStart_rs _ _ hx) (Plain.lastStart_no _ _)
      (extract_join_right _ dots _ 3 hz rfl) (extract_join _ _ _ hz) rfl hz
end Go.Proofs.Qxb6618510a
