/-
  THE WALK of FnUnreadableSplitAtAnyCut at every input.
-/
import Derived.Test.Qxb6618561aFmtZero
namespace Go.Proofs.Qxb6618561aFmt
open Go.ChangeShapes Go.WideShapes Go.ChangeAt Go.RowKit
open Go.Extern.Stop Go.Stop Go.Extern

/-- A slice of ints of length n: nothing is known of its address where it is empty. -/
def Ints (w : World) (A : Option Addr) (n : Nat) (ln : Nat → Int) : Prop :=
  n = 0 ∨ ∃ b o, A = some ⟨b, o, none⟩ ∧ ∀ j, j < n → w.cell? ⟨b, o + j, none⟩ = some (.int .i64 (ln j))

set_option maxRecDepth 100000 in
set_option maxHeartbeats 2000000 in
theorem law_early (A0 A1 A2 : Option Addr) (n0 c0 n1 c1 n2 c2 : Nat) (k : Int) (wh tx : Nat → ByteArray) (w : World) (h1 : Strs w A1 n1 wh) (h2 : Strs w A2 n2 tx)
    (hn0 : n0 ≤ 9223372036854775807) (hn1 : n1 ≤ 9223372036854775807) (hn2 : n2 ≤ 9223372036854775807) (hbad : ¬ (n0 ≤ 1048576 ∧ n1 = n0 ∧ n2 = n0 ∧ 0 ≤ k ∧ k ≤ n0)) :
    Calls Tryf.prog 3 #[.slice A0 n0 c0, .slice A1 n1 c1, .slice A2 n2 c2, .int .i64 k] w fun e w' => e = .returned (.bool true) ∧ Below w.heap.size w w' := by
  have H1 := (show Hid (Strs w A1 n1 wh) from h1)
  have H2 := (show Hid (Strs w A2 n2 tx) from h2)
  have HB := (show Hid (¬ (n0 ≤ 1048576 ∧ n1 = n0 ∧ n2 = n0 ∧ 0 ≤ k ∧ k ≤ n0)) from hbad)
  clear h1 h2 hbad
  go_enter Tryf.func3, Tryf.ntmps3
  go_wp2_with fail
  refine (zz_bytes _ _ _ n0 c0 n1 c1 n2 c2 k wh tx _ H1.out H2.out hn0 hn1 hn2).mono ?_
  rintro e wA ⟨hsm, rfl⟩
  rcases hsm with rfl | ⟨rfl, hs⟩
  · go_wp2
    go_ret
    exact ⟨rfl, Below.refl _ _⟩
  go_wp2_with fail
  refine (unreadable_bytes _ _ _ n0 c0 n1 c1 n2 c2 wh tx _ hs H1.out hn1 H2.out hn2).mono ?_
  rintro e wB ⟨⟨r, rfl⟩, rfl⟩
  clear H1 H2
  by_cases hr : (1048576 : Int) < r
  · go_wp2
    go_ret
    exact ⟨rfl, Below.refl _ _⟩
  have hr' : r ≤ 1048576 := by omega
  clear hr
  by_cases e1 : n1 = n0
  · subst e1
    by_cases e2 : n2 = n1
    · subst e2
      by_cases e3 : k < 0
      · go_wp2
        go_ret
        exact ⟨rfl, Below.refl _ _⟩
      · have e3' : 0 ≤ k := by omega
        have e4 : (n2 : Int) < k := by
          have := HB.out
          omega
        clear e3 HB
        go_wp2
        go_ret
        exact ⟨rfl, Below.refl _ _⟩
    · clear HB
      go_wp2
      go_ret
      exact ⟨rfl, Below.refl _ _⟩
  · clear HB
    go_wp2
    go_ret
    exact ⟨rfl, Below.refl _ _⟩

theorem law_all (F : Interp) (A0 A1 A2 : Option Addr) (n0 c0 n1 c1 n2 c2 : Nat) (k : Int) (ln : Nat → Int) (wh tx : Nat → ByteArray) (w : World) (hF : F.answers w.tape) (h0 : Ints w A0 n0 ln) (h1 : Strs w A1 n1 wh) (h2 : Strs w A2 n2 tx)
    (hn0 : n0 ≤ 9223372036854775807) (hn1 : n1 ≤ 9223372036854775807) (hn2 : n2 ≤ 9223372036854775807) :
    Calls Tryf.prog 3 #[.slice A0 n0 c0, .slice A1 n1 c1, .slice A2 n2 c2, .int .i64 k] w fun e w' => e = .returned (.bool true) ∧ Below w.heap.size w w' := by
  by_cases good : n0 ≤ 1048576 ∧ n1 = n0 ∧ n2 = n0 ∧ 0 ≤ k ∧ k ≤ n0
  · obtain ⟨hs, rfl, rfl, hk0, hk⟩ := good
    obtain ⟨k, rfl⟩ := Int.eq_ofNat_of_zero_le hk0
    by_cases hz : n2 = 0
    · subst hz
      obtain rfl : k = 0 := by omega
      exact law_zero F A0 A1 A2 c0 c1 c2 wh tx w hF h1 h2
    · obtain ⟨lb, lo, rfl, hl⟩ := h0.resolve_left hz
      obtain ⟨wb, wo, rfl, hw⟩ := h1.2.resolve_left hz
      obtain ⟨tb, to, rfl, ht⟩ := h2.2.resolve_left hz
      exact law_some F lb lo c0 wb wo c1 tb to c2 n2 k ln wh tx w hF hs (by omega) (by omega) ⟨hl, hw, ht⟩ h1 h2
  · exact law_early A0 A1 A2 n0 c0 n1 c1 n2 c2 k wh tx w h1 h2 hn0 hn1 hn2 good

/-! ### The arguments opened -/
theorem add_at {w : World} {a : Addr} {n : Nat} (hn : 0 < n) (f : Nat → Value) (h : ∀ j, j < n → w.cell? (a.add j) = some (f j)) : ∃ b o, some a = some (⟨b, o, none⟩ : Addr) ∧ ∀ j, j < n → w.cell? ⟨b, o + j, none⟩ = some (f j) := by
  obtain ⟨b, o, sp⟩ := a
  have hsp : sp = none := by simpa [Addr.add] using World.cell?_spot (h 0 hn)
  subst hsp
  exact ⟨b, o, rfl, fun j hj => by rw [← add_plain]; exact h j hj⟩

theorem open_strs {H : Type} {enc : TypeId × Value → H} {W : World} {A : Option Addr} {n c : Nat} {x : DataW H × List MemPlace} {fuel : Nat} (h : DataW.trod enc Tryf.prog W 0 (fun _ => true) true fuel 23 [.slice A n c] = some x) :
    n ≤ 9223372036854775807 ∧ ∃ ss, Strs W A n ss := by
  rcases open_strings Tryf.underlying23 Tryf.underlying9 (by kernel_rfl) h with ⟨hcs, _⟩ | ⟨a, l, c', ss, hcs, _, hl, hm, hz, _, hcell, hws⟩
  · simp at hcs
    obtain ⟨rfl, rfl, rfl⟩ := hcs
    exact ⟨by omega, fun _ => ByteArray.empty, fun _ => by simp, .inl rfl⟩
  · simp at hcs
    obtain ⟨rfl, rfl, rfl⟩ := hcs
    have hm' : c ≤ 9223372036854775807 := hm
    refine ⟨by omega, fun j => ss.getD j ByteArray.empty, fun j => ?_, ?_⟩
    · by_cases hj : j < ss.length
      · have := hws (ss.getD j ByteArray.empty) (by rw [List.getD_eq_getElem?_getD, List.getElem?_eq_getElem hj]; exact List.getElem_mem hj)
        exact this
      · show (ss.getD j ByteArray.empty).size ≤ 9223372036854775807
        rw [List.getD_eq_getElem?_getD, List.getElem?_eq_none (by omega)]
        simp
    · by_cases hn : n = 0
      · exact .inl hn
      · have hz' : ss.length = c := by simpa using hz
        exact .inr (add_at (by omega) (fun j => .string (ss.getD j ByteArray.empty)) fun j hj => hcell j (by omega))

theorem open_lines {H : Type} {enc : TypeId × Value → H} {W : World} {A : Option Addr} {n c : Nat} {x : DataW H × List MemPlace} {fuel : Nat} (h : DataW.trod enc Tryf.prog W 0 (fun _ => true) true fuel 22 [.slice A n c] = some x) :
    n ≤ 9223372036854775807 ∧ ∃ ln, Ints W A n ln := by
  rcases open_ints Tryf.underlying22 Tryf.underlying3 (by kernel_rfl) h with ⟨hcs, _⟩ | ⟨a, l, c', zs, hcs, _, hl, hm, hz, _, hcell, _⟩
  · simp at hcs
    obtain ⟨rfl, rfl, rfl⟩ := hcs
    exact ⟨by omega, fun _ => 0, .inl rfl⟩
  · simp at hcs
    obtain ⟨rfl, rfl, rfl⟩ := hcs
    have hm' : c ≤ 9223372036854775807 := hm
    refine ⟨by omega, fun j => zs.getD j 0, ?_⟩
    by_cases hn : n = 0
    · exact .inl hn
    · have hz' : zs.length = c := by simpa using hz
      exact .inr (add_at (by omega) (fun j => .int .i64 (zs.getD j 0)) fun j hj => hcell j (by omega))
end Go.Proofs.Qxb6618561aFmt
