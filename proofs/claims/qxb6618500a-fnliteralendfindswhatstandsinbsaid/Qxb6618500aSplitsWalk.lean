/-
  THE WALK of FnLiteralEndSplitsAtAnyCut.
-/
import Derived.Test.Qxb6618500aLit
import Derived.OpenShut
import Derived.ShutString
namespace Go.Proofs.Qxb6618500a
open Go.ChangeShapes Go.WideShapes Go.ChangeAt Go.RowKit

/-- WHAT THE WALK IS TOLD OF A SLICE OF INTEGERS THAT CAME IN (the shell's own word). -/
def IsRow (k : IntKind) (w : World) (a : Option Addr) (len cap : Nat) (zs : List Int) : Prop :=
  (a = none ∧ len = 0 ∧ cap = 0 ∧ zs = []) ∨
  ∃ x, a = some x ∧ len ≤ cap ∧ cap ≤ maxLen ∧ zs.length = cap ∧ (∀ i, i < zs.length → w.cell? (x.add i) = some (.int k (zs.getD i 0))) ∧ ∀ n ∈ zs, (Lit.int k n).wf = true

theorem row_bytes {w : World} {a : Option Addr} {len cap : Nat} {zs : List Int} (h : IsRow .u8 w a len cap zs) : ∃ s : ByteArray, s.size = len ∧ Holds w a s ∧ (a = none → len = 0 ∧ cap = 0) := by
  rcases h with ⟨rfl, rfl, rfl, rfl⟩ | ⟨x, rfl, hlc, hcm, hz, hcell, hwf⟩
  · exact ⟨ByteArray.empty, rfl, ⟨fun _ => rfl, fun x hx => by cases hx⟩, fun _ => ⟨rfl, rfl⟩⟩
  · have hs : (strOfNums (zs.take len)).size = len := by rw [strOfNums_size]; simp; omega
    refine ⟨strOfNums (zs.take len), hs, ⟨(fun h => by cases h), ?_⟩, (fun h => by cases h)⟩
    intro y hy j hj
    obtain rfl := Option.some.inj hy
    have hjl : j < zs.length := by omega
    rw [hcell j hjl]
    have hb := byte_at (strOfNums (zs.take len)) j hj
    rw [strOfNums_data] at hb
    have hm : zs.getD j 0 ∈ zs := by rw [List.getD_eq_getElem?_getD, List.getElem?_eq_getElem hjl]; simp
    have hbd : 0 ≤ zs.getD j 0 ∧ zs.getD j 0 ≤ 255 := bounds_u8 (hwf _ hm)
    have e1 : (zs.take len)[j]? = some (zs.getD j 0) := by
      rw [List.getElem?_take_of_lt (by omega), List.getD_eq_getElem?_getD, List.getElem?_eq_getElem hjl]; simp
    rw [List.getElem?_map, e1, Option.map_some, Option.some.injEq] at hb
    clear e1 hm
    generalize zs.getD j 0 = z at hb hbd ⊢
    rw [← hb]
    have e2 : ((UInt8.ofNat z.toNat).toNat : Int) = z := by simp; omega
    rw [e2]

/-- Below the heap's first size nothing turned. -/
theorem below_copy (w : World) (o : Obj) (n : Nat) : Below w.heap.size w ((w.alloc o).drewN n) :=
  ((Below.refl _ _).alloc (Nat.le_refl _) o).trans ⟨rfl, rfl, rfl, Nat.le_refl _, fun _ _ => rfl⟩
theorem below_drewN (w : World) (n : Nat) : Below w.heap.size w (w.drewN n) := ⟨rfl, rfl, rfl, Nat.le_refl _, fun _ _ => rfl⟩

theorem zz_lit_nil (l : ByteArray) (m : Nat) (w : World) (hlm : l.size = m) (hl : m ≤ 2097152) :
    Calls Try.prog 6 #[.slice none 0 0, .int .i64 0, .string l] w fun e w' => e = .returned (.tuple #[.int .i64 m, .bool (Plain.okL [] 0 l.data.toList)]) ∧ ∃ n, w' = w.drewN n := by
  have := zz_lit_end none 0 ByteArray.empty l 0 m w (Nat.le_refl _) (by omega) hlm hl (Nat.le_refl _) ⟨fun _ => rfl, fun x hx => by cases hx⟩
  have e0 : ((0 : Nat) : Int) + (m : Int) = (m : Int) := by omega
  rw [e0] at this
  exact this

namespace fnLiteralEndSplitsAtAnyCut

/-- What the plain law says of the three answers. -/
theorem plain_false (s l : ByteArray) (i k : Nat) (hi : i ≤ s.size) (h : Plain.okL s.data.toList i (l.extract 0 k).data.toList = false) : Plain.okL s.data.toList i l.data.toList = false := by
  rw [Lib.extract_data, Nat.sub_zero, List.drop_zero] at h
  exact Plain.split_false _ _ i k (by simpa using hi) h
theorem plain_true (s l : ByteArray) (i k : Nat) (hi : i ≤ s.size) (hk : k ≤ l.size) (h : Plain.okL s.data.toList i (l.extract 0 k).data.toList = true) :
    i + k ≤ s.size ∧ Plain.okL s.data.toList (i + k) (l.extract k l.size).data.toList = Plain.okL s.data.toList i l.data.toList := by
  rw [Lib.extract_data, Nat.sub_zero, List.drop_zero] at h
  have := Plain.split_true s.data.toList l.data.toList i k (by simpa using hi) (by simpa using hk) h
  rw [Lib.extract_data, List.take_of_length_le (by simp)]
  exact ⟨by simpa using this.1, this.2⟩

set_option maxHeartbeats 400000 in
theorem walk_some (x : Addr) (cap : Nat) (s l : ByteArray) (i k : Nat) (w : World) (hH : Holds w (some x) s) (hsz : s.size + l.size ≤ 1048576) (hi : i ≤ s.size) (hk : k ≤ l.size) :
    Calls Try.prog 4 #[.slice (some x) s.size cap, .int .i64 i, .string l, .int .i64 k] w fun e w' => e = .returned (.bool true) ∧ Below w.heap.size w w' := by
  have hnil := fun (w : World) => run_neq_slice_nil_any (P := Try.prog) w 22 5 (some x) s.size cap 0 0 Try.underlying22
  have hmk := run_made s.size (by omega)
  have hcp := fun ty => run_copied w x s.size s.size cap s ty rfl (Nat.le_refl _) (hH.2 x rfl)
  have e0 : ((cellsOf s).toList ++ (zeros s.size).toList.drop s.size).toArray = cellsOf s := by
    rw [List.drop_eq_nil_of_le (by simp [size_zeros])]; simp
  rw [e0] at hcp
  have hN := hid (holds_new w s)
  clear e0 hH
  go_enter Try.func4, Try.ntmps4
  go_wp2_with (go_at_call 7; go_in)
  refine (zz_lit_end _ s.size s l i l.size _ (Nat.le_refl _) (by omega) rfl (by omega) hi hN.out).mono ?_
  rintro e w' ⟨rfl, n1, rfl⟩
  go_wp2_with fail
  refine (zz_lit_end _ s.size s (l.extract 0 k) i k _ (Nat.le_refl _) (by omega) (by simp [ByteArray.size_extract]; omega) (by omega) hi (hN.out.drewN n1)).mono ?_
  rintro e w' ⟨rfl, n2, rfl⟩
  cases hok1 : Plain.okL s.data.toList i (l.extract 0 k).data.toList with
  | false =>
    have hok := plain_false s l i k hi hok1
    rw [hok]
    clear hok hok1
    go_wp2
    go_ret
    exact ⟨rfl, below_copy w _ _⟩
  | true =>
    obtain ⟨hik, hok2⟩ := plain_true s l i k hi hk hok1
    have hok2' := hid hok2
    clear hok2 hok1
    go_wp2_with fail
    rw [show (i : Int) + (k : Int) = ((i + k : Nat) : Int) by omega]
    refine (zz_lit_end _ s.size s (l.extract k l.size) (i + k) (l.size - k) _ (Nat.le_refl _) (by omega) (by simp [ByteArray.size_extract]) (by omega) hik (hN.out.drewN _)).mono ?_
    rintro e w' ⟨rfl, n3, rfl⟩
    rw [hok2'.out]
    have ee : ((i + k : Nat) : Int) + ((l.size - k : Nat) : Int) = (i : Int) + (l.size : Int) := by omega
    rw [ee]
    clear ee
    generalize Plain.okL s.data.toList i l.data.toList = q
    go_wp2
    go_ret
    exact ⟨rfl, below_copy w _ _⟩

set_option maxHeartbeats 400000 in
theorem walk_nil (l : ByteArray) (k : Nat) (w : World) (hsz : l.size ≤ 1048576) (hk : k ≤ l.size) :
    Calls Try.prog 4 #[.slice none 0 0, .int .i64 0, .string l, .int .i64 k] w fun e w' => e = .returned (.bool true) ∧ Below w.heap.size w w' := by
  have hnil := fun (w : World) => run_neq_slice_nil_any (P := Try.prog) w 22 5 none 0 0 0 0 Try.underlying22
  go_enter Try.func4, Try.ntmps4
  go_wp2_with (go_at_call 7; go_in)
  refine (zz_lit_nil l l.size _ rfl (by omega)).mono ?_
  rintro e w' ⟨rfl, n1, rfl⟩
  go_wp2_with fail
  refine (zz_lit_nil (l.extract 0 k) k _ (by simp [ByteArray.size_extract]; omega) (by omega)).mono ?_
  rintro e w' ⟨rfl, n2, rfl⟩
  cases hok1 : Plain.okL [] 0 (l.extract 0 k).data.toList with
  | false =>
    have hok : Plain.okL [] 0 l.data.toList = false := plain_false ByteArray.empty l 0 k (Nat.zero_le _) hok1
    rw [hok]
    clear hok hok1
    go_wp2
    go_ret
    exact ⟨rfl, below_drewN w _⟩
  | true =>
    obtain ⟨hik, hok2⟩ := plain_true ByteArray.empty l 0 k (Nat.zero_le _) hk hok1
    have hk0 : k = 0 := by have h0 : ByteArray.empty.size = 0 := rfl; omega
    have hok2' := hid (show Plain.okL [] 0 (l.extract k l.size).data.toList = Plain.okL [] 0 l.data.toList by subst hk0; exact hok2)
    clear hok2 hok1 hik
    subst hk0
    go_wp2_with fail
    refine (zz_lit_nil l l.size _ rfl (by omega)).mono ?_
    rintro e w' ⟨rfl, n3, rfl⟩
    clear hok2'
    generalize Plain.okL [] 0 l.data.toList = q
    go_wp2
    go_ret
    exact ⟨rfl, below_drewN w _⟩

set_option linter.unusedVariables false in
set_option maxHeartbeats 1000000 in
/-- THE WALK, as the shell asks it. -/
theorem walk (a0 : Option Addr) (len0 cap0 : Nat) (z0 : List Int) (a1 : Int) (a2 : ByteArray) (a3 : Int) (w : World) (w0 : IsRow .u8 w a0 len0 cap0 z0) (w1 : (Lit.int .i64 a1).wf = true) (w2 : a2.size ≤ maxLen) (w3 : (Lit.int .i64 a3).wf = true) :
    Calls Try.prog 4 #[.slice a0 len0 cap0, .int .i64 a1, .string a2, .int .i64 a3] w fun e w' => e = .returned (.bool true) ∧ Below w.heap.size w w' := by
  obtain ⟨s, hs, hH, hn⟩ := row_bytes w0
  clear w0
  unfold maxLen at w2
  by_cases c1 : len0 ≤ 1048576
  · by_cases c2 : len0 + a2.size ≤ 1048576
    · by_cases c3 : 0 ≤ a1 ∧ a1 ≤ len0
      · by_cases c4 : 0 ≤ a3 ∧ a3 ≤ a2.size
        · obtain ⟨i, rfl⟩ := Int.eq_ofNat_of_zero_le c3.1
          obtain ⟨k, rfl⟩ := Int.eq_ofNat_of_zero_le c4.1
          cases a0 with
          | none =>
            obtain ⟨rfl, rfl⟩ := hn rfl
            obtain rfl : i = 0 := by omega
            exact walk_nil a2 k w (by omega) (by omega)
          | some x =>
            subst hs
            exact walk_some x cap0 s a2 i k w hH c2 (by omega) (by omega)
        · have c4' : a3 < 0 ∨ (0 ≤ a3 ∧ (a2.size : Int) < a3) := by omega
          clear hH hn hs c4
          rcases c4' with c4' | ⟨c4', c5'⟩
          all_goals
            go_enter Try.func4, Try.ntmps4
            go_wp2
            go_ret
            exact ⟨rfl, Below.refl _ _⟩
      · have c3' : a1 < 0 ∨ (0 ≤ a1 ∧ (len0 : Int) < a1) := by omega
        clear hH hn hs c3
        rcases c3' with c3' | ⟨c3', c5'⟩
        all_goals
          go_enter Try.func4, Try.ntmps4
          go_wp2
          go_ret
          exact ⟨rfl, Below.refl _ _⟩
    · have c2' : (1048576 : Int) < (a2.size : Int) ∨ ((a2.size : Int) ≤ 1048576 ∧ (1048576 : Int) < (len0 : Int) + (a2.size : Int)) := by omega
      clear hH hn hs c2
      rcases c2' with c2' | ⟨c2', c5'⟩
      all_goals
        go_enter Try.func4, Try.ntmps4
        go_wp2
        go_ret
        exact ⟨rfl, Below.refl _ _⟩
  · have c1' : (1048576 : Int) < (len0 : Int) := by omega
    clear hH hn hs c1
    go_enter Try.func4, Try.ntmps4
    go_wp2
    go_ret
    exact ⟨rfl, Below.refl _ _⟩
end fnLiteralEndSplitsAtAnyCut
end Go.Proofs.Qxb6618500a
