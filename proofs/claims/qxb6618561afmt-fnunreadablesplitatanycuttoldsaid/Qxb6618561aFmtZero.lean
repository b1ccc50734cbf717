/-
  THE WALK of FnUnreadableSplitAtAnyCut where there is no line at all.
-/
import Derived.Test.Qxb6618561aFmtLaw
namespace Go.Proofs.Qxb6618561aFmt
open Go.ChangeShapes Go.WideShapes Go.ChangeAt Go.RowKit
open Go.Extern.Stop Go.Stop Go.Extern

theorem probs_zero (A0 A1 A2 : Option Addr) (c0 c1 c2 : Nat) (w : World) :
    Calls Tryf.prog 6 #[.slice A0 0 c0, .slice A1 0 c1, .slice A2 0 c2] w fun e w' => e = .returned (.slice (some ⟨w.heap.size, 0, none⟩) 0 0) ∧ Below w.heap.size w w' ∧ w.heap.size < w'.heap.size := by
  obtain ⟨Z, hZ, hmk⟩ := made_probs 0 (by omega)
  simp only [Int.natCast_zero] at hmk
  go_enter Tryf.func6, Tryf.ntmps6
  go_wp2
  go_rounds 1
  go_wp2
  go_ret
  exact ⟨rfl, (Below.refl _ _).alloc (Nat.le_refl _) _, by simp⟩

theorem InvF.none {w : World} {B : Nat} {fs : List (Int × ByteArray)} (h : InvF w B fs) (hl : fs.length = 0) : ∃ A c, w.cell? ⟨B, 1, none⟩ = some (.slice A 0 c) := by
  obtain ⟨v, hc, hf, ho⟩ := h
  rcases ho.2 with ⟨h0, _⟩ | ⟨g, cap, cur, h1, _⟩
  · exact ⟨_, _, by rw [hc, h0]⟩
  · exact ⟨_, _, by rw [hc, h1, hl]⟩

theorem Prob.zero (w : World) (pb o : Nat) (ln : Nat → Int) (wh tx : Nat → ByteArray) : Prob w pb o 0 ln wh tx := fun j hj => absurd hj (Nat.not_lt_zero j)
theorem cut_zero (pb : Nat) : ∀ wx, (Instr.slice 26 (.slice (some ⟨pb, 0, none⟩) 0 0) (some (.int .i64 0)) none none).run Tryf.prog wx = .ok (.slice (some ⟨pb, 0, none⟩) 0 0) wx := fun wx => cut_probs pb 0 0 (by omega) wx
theorem no_lines {fs : List (Int × ByteArray)} {ln : Nat → Int} (h : fs.map Prod.fst = (List.range 0).map ln) : fs.length = 0 := by
  have := congrArg List.length h
  simpa using this

set_option maxRecDepth 100000 in
set_option maxHeartbeats 2000000 in
theorem law_zero (F : Interp) (A0 A1 A2 : Option Addr) (c0 c1 c2 : Nat) (wh tx : Nat → ByteArray) (w : World) (hF : F.answers w.tape) (h1 : Strs w A1 0 wh) (h2 : Strs w A2 0 tx) :
    Calls Tryf.prog 3 #[.slice A0 0 c0, .slice A1 0 c1, .slice A2 0 c2, .int .i64 0] w fun e w' => e = .returned (.bool true) ∧ Below w.heap.size w w' := by
  have HF := (show Hid (F.answers w.tape) from hF)
  have H1 := (show Hid (Strs w A1 0 wh) from h1)
  have H2 := (show Hid (Strs w A2 0 tx) from h2)
  clear hF h1 h2
  go_enter Tryf.func3, Tryf.ntmps3
  go_wp2_with fail
  refine (zz_bytes _ _ _ 0 c0 0 c1 0 c2 0 wh tx _ H1.out H2.out (by omega) (by omega) (by omega)).mono ?_
  rintro e wA ⟨hsm, rfl⟩
  rcases hsm with rfl | ⟨rfl, _⟩
  · go_wp2
    go_ret
    exact ⟨rfl, Below.refl _ _⟩
  go_wp2_with fail
  refine (unreadable_bytes _ _ _ 0 c0 0 c1 0 c2 wh tx _ (by omega) H1.out (by omega) H2.out (by omega)).mono ?_
  rintro e wB ⟨⟨r, rfl⟩, rfl⟩
  by_cases hr : (1048576 : Int) < r
  · go_wp2
    go_ret
    exact ⟨rfl, Below.refl _ _⟩
  have hr' : r ≤ 1048576 := by omega
  clear hr H1 H2
  go_wp2_with fail
  refine (probs_zero _ _ _ _ _ _ _).mono ?_
  rintro e w1 ⟨rfl, hb1, hz1⟩
  have B1 := (show Hid (Below wB.heap.size wB w1) from hb1)
  clear hb1
  go_wp2_with fail
  refine (new_checker _).mono ?_
  rintro e w2 ⟨rfl, hi2, hb2⟩
  have I2 := (show Hid (InvF w2 w1.heap.size []) from hi2)
  have B2 := (show Hid (Below w1.heap.size w1 w2) from hb2)
  have T2 := (show Hid (F.answers w2.tape) from (by rw [hb2.tape, B1.out.tape]; exact HF.out))
  clear hi2 hb2
  go_wp2_with fail
  refine (zz_unread F w1.heap.size wB.heap.size 0 0 0 [] (fun _ => 0) wh tx _ T2.out I2.out (by simp) hz1 (Prob.zero _ _ _ _ _ _)).mono ?_
  rintro e w3 ⟨rfl, gs, hg1, hg2, hb3⟩
  have hz3 : w1.heap.size < w3.heap.size := by
    obtain ⟨v, hc, _⟩ := hg1
    exact World.block_lt_of_cell? _ _ hc
  have I3 := (show Hid (InvF w3 w1.heap.size gs) from hg1)
  have G3 := (show Hid (gs.length = 0) from no_lines hg2)
  have B3 := (show Hid (Below w1.heap.size w1 w3) from B2.out.trans hb3)
  have T3 := (show Hid (F.answers w3.tape) from (by rw [hb3.tape]; exact T2.out))
  clear hg1 hg2 hb3 I2 B2 T2
  go_wp2_with fail
  refine (new_checker _).mono ?_
  rintro e w4 ⟨rfl, hi4, hb4⟩
  have I4 := (show Hid (InvF w4 w3.heap.size []) from hi4)
  have B4 := (show Hid (Below w3.heap.size w3 w4) from hb4)
  have hpb : wB.heap.size < w3.heap.size := by omega
  have T4 := (show Hid (F.answers w4.tape) from (by rw [hb4.tape]; exact T3.out))
  clear hi4 hb4 T3
  go_wp2_with fail
  refine (zz_unread F w3.heap.size wB.heap.size 0 0 0 [] (fun _ => 0) wh tx _ T4.out I4.out (by simp) hpb (Prob.zero _ _ _ _ _ _)).mono ?_
  rintro e w5 ⟨rfl, gs1, hg1, hg2, hb5⟩
  have I5 := (show Hid (InvF w5 w3.heap.size gs1) from hg1)
  have G5 := (show Hid (gs1.length = 0) from no_lines hg2)
  have B5 := (show Hid (Below w3.heap.size w3 w5) from B4.out.trans hb5)
  have T5 := (show Hid (F.answers w5.tape) from (by rw [hb5.tape]; exact T4.out))
  clear hg1 hg2 hb5 I4 B4 T4
  have hsl := cut_zero wB.heap.size
  go_wp2_with fail
  refine (zz_unread F w3.heap.size wB.heap.size 0 0 0 gs1 (fun _ => 0) wh tx _ T5.out I5.out (by have := G5.out; omega) hpb (Prob.zero _ _ _ _ _ _)).mono ?_
  rintro e w6 ⟨rfl, gs2, hg1, hg2, hb6⟩
  have hb36 : Below w3.heap.size w3 w6 := B5.out.trans hb6
  have hb16 : Below w1.heap.size w1 w6 := B3.out.trans (hb36.mono (by omega))
  have hbB6 : Below wB.heap.size wB w6 := B1.out.trans (hb16.mono (by omega))
  obtain ⟨ga, ca, ha1⟩ := (I3.out.later hb36).none G3.out
  obtain ⟨gb, cb, hb1⟩ := hg1.none (by have := no_lines hg2; have := G5.out; rw [List.length_append]; omega)
  have HA1 := (show Hid (w6.cell? ⟨w1.heap.size, 1, Option.none⟩ = some (.slice ga 0 ca)) from ha1)
  have HB1 := (show Hid (w6.cell? ⟨w3.heap.size, 1, Option.none⟩ = some (.slice gb 0 cb)) from hb1)
  have HB6 := (show Hid (Below wB.heap.size wB w6) from hbB6)
  clear hg1 hg2 hb6 hb36 hb16 hbB6 ha1 hb1 I3 G3 B1 B3 I5 G5 B5 T5 HF hsl
  go_wp2_with fail
  refine (zz_held _ _ _ HA1.out).mono ?_
  rintro e w6' ⟨rfl, rfl⟩
  go_wp2_with fail
  refine (zz_held _ _ _ HB1.out).mono ?_
  rintro e w6 ⟨rfl, rfl⟩
  clear HA1 HB1
  go_wp2
  go_rounds 1
  go_wp2
  go_ret
  exact ⟨rfl, HB6.out⟩
end Go.Proofs.Qxb6618561aFmt
