/-
  THE WALK of FnEdnValueStringKeepsWholeCharacters.
-/
import Derived.Test.Qxb6618510aCutsWalk
import Derived.Test.Qxb6618510aValid
namespace Go.Proofs.Qxb6618510a
open Go.ChangeShapes Go.WideShapes Go.ChangeAt Go.RowKit

/-- zzValidUTF8, its answer as a Bool of its own. -/
theorem valid_is (s : ByteArray) (q : Bool) (w : World) (hs : s.size ≤ 1048576) (hq : Plain.valid s.data.toList = q) : Calls Try.prog 10 #[.string s] w fun e w' => e = .returned (.bool q) ∧ w' = w := by
  subst hq
  exact valid_any s w hs

theorem size_len (s : ByteArray) : s.data.toList.length = s.size := by simp

/-- A well-formed text can be cut. -/
theorem can_valid (s : ByteArray) (h : Plain.valid s.data.toList = true) : CanCut s := by
  by_cases hs : s.size ≤ 40
  · exact .inl hs
  · obtain ⟨_, h2⟩ := Plain.long_start s.data.toList h (by rw [size_len]; omega)
    exact .inr ⟨_, Plain.lastStart_le _ _, h2⟩

theorem valid_join (t u : ByteArray) (ht : Plain.valid t.data.toList = true) (hu : Plain.valid u.data.toList = true) : Plain.valid (t ++ u).data.toList = true := by
  rw [Joins.data_append]
  exact Plain.valid_append _ _ _ (Nat.le_refl _) ht hu

theorem extract_take (s : ByteArray) (n : Nat) : (s.extract 0 n).data.toList = s.data.toList.take n := by
  rw [Lib.extract_data, Nat.sub_zero, List.drop_zero]

/-! ### Bytes b = p ++ "..." as the law takes them apart -/
/-- What the law asks of the long text W and of b, what String shows of it: p its prefix, n its length. -/
structure Long (W b p : ByteArray) (n : Nat) : Prop where
  wl : 40 < W.size
  ws : W.size ≤ 1048576
  bs : b.size = n + 3
  tail : b.extract n (n + 3) = ⟨#[46, 46, 46]⟩
  head : b.extract 0 n = p
  pre : W.extract 0 n = p
  ps : p.size = n
  lo : 37 ≤ n
  hi : n ≤ 40
  good : Plain.valid p.data.toList = true
  bad : ∀ j, n < j → j ≤ 40 → Plain.valid (W.extract 0 j).data.toList = false

theorem long_of (W : ByteArray) (hw : Plain.valid W.data.toList = true) (hl : 40 < W.size) (hs : W.size ≤ 1048576) : ∃ p n, n = Plain.lastStart W.data.toList 40 ∧ Long W (shown W) p n := by
  have hl' : 40 < W.data.toList.length := by rw [size_len]; exact hl
  have hle := Plain.lastStart_le W.data.toList 40
  have h37 := (Plain.long_start W.data.toList hw hl').1
  have hg := Plain.prefix_valid W.data.toList hw hl'
  have hb := Plain.longer_bad W.data.toList hw hl'
  rw [shown_long W hl]
  obtain ⟨n, hn⟩ : ∃ n, n = Plain.lastStart W.data.toList 40 := ⟨_, rfl⟩
  rw [← hn] at hle h37 hg hb ⊢
  have hz : (W.extract 0 n).size = n := by simp [ByteArray.size_extract]; omega
  refine ⟨W.extract 0 n, n, rfl, hl, hs, by rw [ByteArray.size_append, hz]; rfl, extract_join_right _ dots _ 3 hz rfl, extract_join _ _ _ hz, rfl, hz, h37, hle, by rw [extract_take]; exact hg, fun j h1 h2 => by rw [extract_take]; exact hb j h1 h2⟩

theorem extract_all (t u : ByteArray) : (t ++ u).extract 0 t.size = t := extract_join t u t.size rfl
/-- t begins what t+u shows. -/
theorem begins (t u : ByteArray) (ht : t.size ≤ 40) (hl : 40 < (t ++ u).size) (hu : Plain.valid u.data.toList = true) : t.size ≤ Plain.lastStart (t ++ u).data.toList 40 ∧ (shown (t ++ u)).extract 0 t.size = t := by
  have hge : t.size ≤ Plain.lastStart (t ++ u).data.toList 40 := by
    rw [Joins.data_append, ← size_len t]
    exact Plain.start_ge _ _ hu (by rw [size_len]; exact ht) (by rw [← Joins.data_append, size_len]; exact hl)
  refine ⟨hge, ?_⟩
  have hle := Plain.lastStart_le (t ++ u).data.toList 40
  rw [shown_long _ hl, extract_left _ dots t.size (by simp only [ByteArray.size_extract]; omega)]
  apply WideShapes.bytes_inj
  rw [extract_take, extract_take, List.take_take, Nat.min_eq_left hge, Joins.data_append, ← size_len t, List.take_left]

set_option maxRecDepth 100000 in
set_option maxHeartbeats 400000 in
/-- Both are well-formed, t+u is short. -/
theorem keeps_short (a0 : Int) (t u : ByteArray) (w : World) (h : t.size + u.size ≤ 40) (ht : Plain.valid t.data.toList = true) (hu : Plain.valid u.data.toList = true) :
    Calls Try.prog 4 #[.int .u8 a0, .string t, .string u] w fun e w' => e = .returned (.bool true) ∧ Grown w w' := by
  have Ht := (show Hid (Plain.valid t.data.toList = true) from ht)
  have Hu := (show Hid (Plain.valid u.data.toList = true) from hu)
  have HW := (show Hid ((t ++ u).size ≤ 40) from (by rw [size_join]; exact h))
  have hx := extract_all t u
  clear ht hu
  go_enter Try.func4, Try.ntmps4
  go_wp2_with (go_at_call 9; go_in)
  refine (valid_is t true _ (by omega) Ht.out).mono ?_
  rintro e w' ⟨rfl, rfl⟩
  go_wp2_with fail
  refine (valid_is u true _ (by omega) Hu.out).mono ?_
  rintro e w' ⟨rfl, rfl⟩
  go_wp2_with fail
  refine (edn_string a0 t _ (.inl (by omega)) (by omega)).mono ?_
  rintro e w1 ⟨rfl, rfl⟩
  rw [shown_short t (by omega)]
  go_wp2_with fail
  refine (edn_string a0 (t ++ u) _ (.inl HW.out) (Nat.le_trans HW.out (by omega))).mono ?_
  rintro e w1 ⟨rfl, rfl⟩
  rw [shown_short (t ++ u) HW.out]
  have hw : (t ++ u).size = t.size + u.size := size_join t u
  go_wp2
  go_ret
  exact ⟨rfl, by repeat (first | exact Grown.refl _ | apply Grown.drew | apply Grown.alloc)⟩

set_option maxRecDepth 100000 in
set_option maxHeartbeats 1000000 in
/-- Both are well-formed, t+u is long, t is short. -/
theorem keeps_mid (a0 : Int) (t u : ByteArray) (w : World) (h : t.size + u.size ≤ 1048576) (hl : 40 < t.size + u.size) (hts : t.size ≤ 40) (ht : Plain.valid t.data.toList = true) (hu : Plain.valid u.data.toList = true) :
    Calls Try.prog 4 #[.int .u8 a0, .string t, .string u] w fun e w' => e = .returned (.bool true) ∧ Grown w w' := by
  have hwj := valid_join t u ht hu
  have hsz := size_join t u
  obtain ⟨hge, hbeg⟩ := begins t u hts (by omega) hu
  obtain ⟨p, n, hn, L⟩ := long_of (t ++ u) hwj (by omega) (by omega)
  rw [← hn] at hge
  have Ht := (show Hid (Plain.valid t.data.toList = true) from ht)
  have Hu := (show Hid (Plain.valid u.data.toList = true) from hu)
  have HW := (show Hid (CanCut (t ++ u)) from can_valid _ hwj)
  have HL := (show Hid (Long (t ++ u) (shown (t ++ u)) p n) from L)
  have HB := (show Hid ((shown (t ++ u)).extract 0 t.size = t) from hbeg)
  have HZ := (show Hid ((t ++ u).size = t.size + u.size) from hsz)
  clear ht hu hwj hsz hbeg L hn
  go_enter Try.func4, Try.ntmps4
  go_wp2_with (go_at_call 9; go_in)
  refine (valid_is t true _ (by omega) Ht.out).mono ?_
  rintro e w' ⟨rfl, rfl⟩
  go_wp2_with fail
  refine (valid_is u true _ (by omega) Hu.out).mono ?_
  rintro e w' ⟨rfl, rfl⟩
  go_wp2_with fail
  refine (edn_string a0 t _ (.inl hts) (by omega)).mono ?_
  rintro e w1 ⟨rfl, rfl⟩
  rw [shown_short t hts]
  go_wp2_with fail
  refine (edn_string a0 (t ++ u) _ HW.out (by rw [HZ.out]; exact h)).mono ?_
  rintro e w1 ⟨rfl, rfl⟩
  clear Ht Hu HW
  revert HL HB HZ
  generalize shown (t ++ u) = B
  generalize t ++ u = W
  intro HL HB HZ
  obtain ⟨l1, l2, l3, l4, l5, l6, l7, l8, l9, l10, l11⟩ := HL.out
  have Hg := (show Hid (Plain.valid p.data.toList = true) from l10)
  have Hb := (show Hid (∀ j, n < j → j ≤ 40 → Plain.valid (W.extract 0 j).data.toList = false) from l11)
  have hbt := HB.out
  clear l10 l11 HL HB HZ
  go_wp2_with fail
  refine (valid_is p true _ (by omega) Hg.out).mono ?_
  rintro e w1 ⟨rfl, rfl⟩
  go_wp2_with fail
  go_loop [11] (fun v => ∃ k : Nat, n < k ∧ k ≤ 41 ∧ v = .int .i64 k) (fun v => 41 - (intOf v).toNat)
  case atStart => exact ⟨n + 1, by omega, by omega, by go_num⟩
  case round =>
    obtain ⟨k, hk1, hk2, rfl⟩ := hrel
    by_cases hlt : k ≤ 40
    · have hkW : k ≤ W.size := by omega
      go_wp2_with fail
      refine (valid_is (W.extract 0 k) false _ (by simp only [ByteArray.size_extract]; omega) (Hb.out k hk1 hlt)).mono ?_
      rintro e w1 ⟨rfl, rfl⟩
      go_wp2
      go_round
      case rel => exact ⟨k + 1, by omega, by omega, by go_num⟩
      case measure => simp [intOf]; omega
    · go_wp2
      go_ret
      exact ⟨rfl, by repeat (first | exact Grown.refl _ | apply Grown.drew | apply Grown.alloc)⟩

set_option maxRecDepth 100000 in
set_option maxHeartbeats 1000000 in
/-- Both are well-formed, t is long. -/
theorem keeps_long (a0 : Int) (t u : ByteArray) (w : World) (h : t.size + u.size ≤ 1048576) (hts : 40 < t.size) (ht : Plain.valid t.data.toList = true) (hu : Plain.valid u.data.toList = true) :
    Calls Try.prog 4 #[.int .u8 a0, .string t, .string u] w fun e w' => e = .returned (.bool true) ∧ Grown w w' := by
  have hwj := valid_join t u ht hu
  have hsz := size_join t u
  obtain ⟨p, n, hn, L⟩ := long_of (t ++ u) hwj (by omega) (by omega)
  have Ht := (show Hid (Plain.valid t.data.toList = true) from ht)
  have Hu := (show Hid (Plain.valid u.data.toList = true) from hu)
  have HW := (show Hid (CanCut (t ++ u)) from can_valid _ hwj)
  have HT := (show Hid (CanCut t) from can_valid _ ht)
  have HL := (show Hid (Long (t ++ u) (shown (t ++ u)) p n) from L)
  have HS := (show Hid (shown t = shown (t ++ u)) from (shown_join t u hts).symm)
  have HZ := (show Hid ((t ++ u).size = t.size + u.size) from hsz)
  clear ht hu hwj hsz L hn
  go_enter Try.func4, Try.ntmps4
  go_wp2_with (go_at_call 9; go_in)
  refine (valid_is t true _ (by omega) Ht.out).mono ?_
  rintro e w' ⟨rfl, rfl⟩
  go_wp2_with fail
  refine (valid_is u true _ (by omega) Hu.out).mono ?_
  rintro e w' ⟨rfl, rfl⟩
  go_wp2_with fail
  refine (edn_string a0 t _ HT.out (by omega)).mono ?_
  rintro e w1 ⟨rfl, rfl⟩
  rw [HS.out]
  go_wp2_with fail
  refine (edn_string a0 (t ++ u) _ HW.out (by rw [HZ.out]; exact h)).mono ?_
  rintro e w1 ⟨rfl, rfl⟩
  clear Ht Hu HW HT HS
  revert HL HZ
  generalize shown (t ++ u) = B
  generalize t ++ u = W
  intro HL HZ
  obtain ⟨l1, l2, l3, l4, l5, l6, l7, l8, l9, l10, l11⟩ := HL.out
  have Hg := (show Hid (Plain.valid p.data.toList = true) from l10)
  have Hb := (show Hid (∀ j, n < j → j ≤ 40 → Plain.valid (W.extract 0 j).data.toList = false) from l11)
  clear l10 l11 HL HZ
  go_wp2_with fail
  refine (valid_is p true _ (by omega) Hg.out).mono ?_
  rintro e w1 ⟨rfl, rfl⟩
  go_wp2_with fail
  go_loop [11] (fun v => ∃ k : Nat, n < k ∧ k ≤ 41 ∧ v = .int .i64 k) (fun v => 41 - (intOf v).toNat)
  case atStart => exact ⟨n + 1, by omega, by omega, by go_num⟩
  case round =>
    obtain ⟨k, hk1, hk2, rfl⟩ := hrel
    by_cases hlt : k ≤ 40
    · have hkW : k ≤ W.size := by omega
      go_wp2_with fail
      refine (valid_is (W.extract 0 k) false _ (by simp only [ByteArray.size_extract]; omega) (Hb.out k hk1 hlt)).mono ?_
      rintro e w1 ⟨rfl, rfl⟩
      go_wp2
      go_round
      case rel => exact ⟨k + 1, by omega, by omega, by go_num⟩
      case measure => simp [intOf]; omega
    · go_wp2
      go_ret
      exact ⟨rfl, by repeat (first | exact Grown.refl _ | apply Grown.drew | apply Grown.alloc)⟩

set_option linter.unusedVariables false in
set_option maxHeartbeats 1000000 in
/-- THE WALK, as the shell asks it. -/
theorem keeps_walk (a0 : Int) (a1 : ByteArray) (a2 : ByteArray) (w0 : (Lit.int .u8 a0).wf = true) (w1 : a1.size ≤ maxLen) (w2 : a2.size ≤ maxLen) (w : World) :
    Calls Try.prog 4 #[.int .u8 a0, .string a1, .string a2] w fun e w' => e = .returned (.bool true) ∧ Grown w w' := by
  unfold maxLen at w1 w2
  by_cases h : a1.size + a2.size ≤ 1048576
  · cases ht : Plain.valid a1.data.toList with
    | false =>
      have Ht := (show Hid (Plain.valid a1.data.toList = false) from ht)
      clear ht
      go_enter Try.func4, Try.ntmps4
      go_wp2_with (go_at_call 9; go_in)
      refine (valid_is a1 false _ (by omega) Ht.out).mono ?_
      rintro e w' ⟨rfl, rfl⟩
      go_wp2
      go_ret
      exact ⟨rfl, Grown.refl _⟩
    | true =>
      cases hu : Plain.valid a2.data.toList with
      | false =>
        have Ht := (show Hid (Plain.valid a1.data.toList = true) from ht)
        have Hu := (show Hid (Plain.valid a2.data.toList = false) from hu)
        clear ht hu
        go_enter Try.func4, Try.ntmps4
        go_wp2_with (go_at_call 9; go_in)
        refine (valid_is a1 true _ (by omega) Ht.out).mono ?_
        rintro e w' ⟨rfl, rfl⟩
        go_wp2_with fail
        refine (valid_is a2 false _ (by omega) Hu.out).mono ?_
        rintro e w' ⟨rfl, rfl⟩
        go_wp2
        go_ret
        exact ⟨rfl, Grown.refl _⟩
      | true =>
        by_cases h1 : a1.size + a2.size ≤ 40
        · exact keeps_short a0 a1 a2 w h1 ht hu
        · by_cases h2 : a1.size ≤ 40
          · exact keeps_mid a0 a1 a2 w h (by omega) h2 ht hu
          · exact keeps_long a0 a1 a2 w h (by omega) ht hu
  · have hx : (1048576 : Int) < a1.size ∨ ((a1.size : Int) ≤ 1048576 ∧ (1048576 : Int) < a2.size) ∨ ((a1.size : Int) ≤ 1048576 ∧ (a2.size : Int) ≤ 1048576 ∧ (1048576 : Int) < (a1.size : Int) + a2.size) := by omega
    clear h
    rcases hx with h1 | ⟨h1, h2⟩ | ⟨h1, h2, h3⟩
    all_goals
      go_enter Try.func4, Try.ntmps4
      go_wp2
      go_ret
      exact ⟨rfl, Grown.refl _⟩
end Go.Proofs.Qxb6618510a
