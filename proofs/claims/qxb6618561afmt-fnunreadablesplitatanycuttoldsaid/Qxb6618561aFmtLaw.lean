/-
  THE WALK of FnUnreadableSplitAtAnyCut.
-/
import Derived.Test.Qxb6618561aFmtBytes
namespace Go.Proofs.Qxb6618561aFmt
open Go.ChangeShapes Go.WideShapes Go.ChangeAt Go.RowKit
open Go.Extern.Stop Go.Stop Go.Extern

/-! ### Findings in memory -/
theorem cellsF_length (fs : List (Int × ByteArray)) : (cellsF fs).length = fs.length * 4 := by
  induction fs with
  | nil => rfl
  | cons f r ih =>
    show (find4 f.1 f.2 ++ cellsF r).length = _
    rw [List.length_append, ih]
    simp [find4]
    omega

theorem cellsF_at (fs : List (Int × ByteArray)) : ∀ (i q : Nat) (f : Int × ByteArray), fs[i]? = some f → q < 4 → (cellsF fs)[i * 4 + q]? = (find4 f.1 f.2)[q]? := by
  induction fs with
  | nil => intro i q f h _; simp at h
  | cons g r ih =>
    intro i q f h hq
    show (find4 g.1 g.2 ++ cellsF r)[i * 4 + q]? = _
    have hl : (find4 g.1 g.2).length = 4 := rfl
    cases i with
    | zero =>
      simp at h
      subst h
      rw [Nat.zero_mul, Nat.zero_add, List.getElem?_append_left (by rw [hl]; exact hq)]
    | succ i =>
      simp at h
      rw [List.getElem?_append_right (by rw [hl]; omega), hl, show (i + 1) * 4 + q - 4 = i * 4 + q by omega]
      exact ih i q f h hq

theorem InvF.later {w w' : World} {B : Nat} {fs : List (Int × ByteArray)} (h : InvF w B fs) (hb : Below w.heap.size w w') : InvF w' B fs := by
  obtain ⟨v, hc, hf, ho⟩ := h
  have hB : B < w.heap.size := World.block_lt_of_cell? _ _ hc
  refine ⟨v, cell_later hb hc, by rw [hb.frozen (p := ⟨B, 1, none⟩) hB]; exact hf, ho.1, ?_⟩
  rcases ho.2 with h0 | ⟨g, cap, cur, h1, h2, h3, h4⟩
  · exact .inl h0
  · refine .inr ⟨g, cap, cur, h1, h2, ?_, h4⟩
    rw [hb.block g (Array.getElem?_eq_some_iff.1 h3).1]
    exact h3

/-- What a checker's held findings look like, where there is one at least: the slice and its cells. -/
theorem InvF.form {w : World} {B : Nat} {fs : List (Int × ByteArray)} (h : InvF w B fs) {n : Nat} (hn : fs.length = n) (h0 : 0 < n) (ln : Nat → Int) (hl : fs.map Prod.fst = (List.range n).map ln) :
    ∃ (g cap : Nat) (tx : Nat → ByteArray), w.cell? ⟨B, 1, none⟩ = some (.slice (some ⟨g, 0, none⟩) n cap) ∧
      ∀ i, i < n → w.cell? ⟨g, i * 4, none⟩ = some (.int .i64 (ln i)) ∧ w.cell? ⟨g, i * 4 + 1, none⟩ = some (.int .i64 2) ∧ w.cell? ⟨g, i * 4 + 2, none⟩ = some (.string unread) ∧ w.cell? ⟨g, i * 4 + 3, none⟩ = some (.string (tx i)) := by
  subst hn
  obtain ⟨v, hc, hf, ho⟩ := h
  obtain ⟨g, cap, rfl, _, _⟩ := ho.form h0
  refine ⟨g, cap, fun i => (fs.getD i (0, ByteArray.empty)).2, hc, ?_⟩
  intro i hi
  have hfi : fs[i]? = some (fs.getD i (0, ByteArray.empty)) := by
    rw [List.getD_eq_getElem?_getD, List.getElem?_eq_getElem hi]; rfl
  have hli : (fs.getD i (0, ByteArray.empty)).1 = ln i := by
    have := congrArg (fun l => l[i]?) hl
    simp only [List.getElem?_map, hfi, Option.map_some] at this
    simpa [hi] using this
  have hat := fun q (hq : q < 4) => (ho.cellAt (i * 4 + q) (by omega)).trans (cellsF_at fs i q _ hfi hq)
  have a0 := hat 0 (by omega)
  have a1 := hat 1 (by omega)
  have a2 := hat 2 (by omega)
  have a3 := hat 3 (by omega)
  rw [hli] at a0 a1 a2 a3
  exact ⟨a0, a1, a2, a3⟩

/-- The rest of the problems. -/
theorem Prob.rest {w : World} {pb n k : Nat} {ln : Nat → Int} {wh tx : Nat → ByteArray} (h : Prob w pb 0 n ln wh tx) (hk : k ≤ n) : Prob w pb (if n = k then 0 else k * 3) (n - k) (fun j => ln (k + j)) (fun j => wh (k + j)) (fun j => tx (k + j)) := by
  intro j hj
  rw [if_neg (by omega)]
  obtain ⟨a, b, c⟩ := h (k + j) (by omega)
  rw [show 0 + (k + j) * 3 = k * 3 + j * 3 by omega] at a b c
  exact ⟨a, b, c⟩
theorem Prob.later {w w' : World} {B pb o n : Nat} {ln : Nat → Int} {wh tx : Nat → ByteArray} (h : Prob w pb o n ln wh tx) (hb : Below B w w') (hp : pb < B) : Prob w' pb o n ln wh tx := by
  intro j hj
  obtain ⟨a, b, c⟩ := h j hj
  exact ⟨(hb.cell (p := ⟨pb, o + j * 3, none⟩) hp).trans a, (hb.cell (p := ⟨pb, o + j * 3 + 1, none⟩) hp).trans b, (hb.cell (p := ⟨pb, o + j * 3 + 2, none⟩) hp).trans c⟩
theorem Prob.front {w : World} {pb o n k : Nat} {ln : Nat → Int} {wh tx : Nat → ByteArray} (h : Prob w pb o n ln wh tx) (hk : k ≤ n) : Prob w pb o k ln wh tx := fun j hj => h j (by omega)

theorem range_split (ln : Nat → Int) (n k : Nat) (h : k ≤ n) : (List.range k).map ln ++ (List.range (n - k)).map (fun j => ln (k + j)) = (List.range n).map ln := by
  have e : n = k + (n - k) := by omega
  rw [e, List.range_add, List.map_append, List.map_map, show k + (n - k) - k = n - k by omega]
  rfl

theorem sizeOf40 (w : World) : (Go.sizeOf 40).run Tryf.prog w = .ok 3 w := by kernel_rfl
theorem elem26 : Tryf.prog.elem 26 = 40 := by kernel_rfl
/-- 'problems[k:]'. -/
theorem cut_probs (pb n k : Nat) (hk : k ≤ n) : ∀ wx, (Instr.slice 26 (.slice (some ⟨pb, 0, none⟩) n n) (some (.int .i64 (k : Int))) none none).run Tryf.prog wx = .ok (.slice (some ⟨pb, if n = k then 0 else k * 3, none⟩) (n - k) (n - k)) wx := by
  intro wx
  have ht : Tryf.prog.underlying 26 = some (.slice (Tryf.prog.elem 26)) := by rw [elem26]; exact Tryf.underlying26
  rw [run_slice_l wx 26 _ n n ht .i64 k (by omega) (by omega), elem26, sizeOf40]
  by_cases h : n = k
  · simp [Result.andThen, sliced, h]
  · simp [Result.andThen, sliced, h, add_plain]

set_option maxRecDepth 100000 in
set_option maxHeartbeats 2000000 in
theorem law_some (F : Interp) (lb lo lc wb wo wc tb to tc n k : Nat) (ln : Nat → Int) (wh tx : Nat → ByteArray) (w : World) (hF : F.answers w.tape) (hn : n ≤ 1048576) (h0 : 0 < n) (hk : k ≤ n) (h3 : Three w lb lo wb wo tb to n ln wh tx)
    (h1 : Strs w (some ⟨wb, wo, none⟩) n wh) (h2 : Strs w (some ⟨tb, to, none⟩) n tx) :
    Calls Tryf.prog 3 #[.slice (some ⟨lb, lo, none⟩) n lc, .slice (some ⟨wb, wo, none⟩) n wc, .slice (some ⟨tb, to, none⟩) n tc, .int .i64 k] w fun e w' => e = .returned (.bool true) ∧ Below w.heap.size w w' := by
  have HF := (show Hid (F.answers w.tape) from hF)
  have H3 := (show Hid (Three w lb lo wb wo tb to n ln wh tx) from h3)
  have H1 := (show Hid (Strs w (some ⟨wb, wo, none⟩) n wh) from h1)
  have H2 := (show Hid (Strs w (some ⟨tb, to, none⟩) n tx) from h2)
  clear hF h3 h1 h2
  go_enter Tryf.func3, Tryf.ntmps3
  go_wp2_with fail
  refine (zz_bytes _ _ _ n lc n wc n tc k wh tx _ H1.out H2.out (by omega) (by omega) (by omega)).mono ?_
  rintro e wA ⟨hsm, rfl⟩
  rcases hsm with rfl | ⟨rfl, _⟩
  · go_wp2
    go_ret
    exact ⟨rfl, Below.refl _ _⟩
  go_wp2_with fail
  refine (unreadable_bytes _ _ _ n lc n wc n tc wh tx _ hn H1.out (by omega) H2.out (by omega)).mono ?_
  rintro e wB ⟨⟨r, rfl⟩, rfl⟩
  by_cases hr : (1048576 : Int) < r
  · go_wp2
    go_ret
    exact ⟨rfl, Below.refl _ _⟩
  have hr' : r ≤ 1048576 := by omega
  clear hr H1 H2
  go_wp2_with fail
  refine (probs_some lb lo lc wb wo wc tb to tc n ln wh tx _ hn h0 H3.out).mono ?_
  rintro e w1 ⟨rfl, hp1, hb1, hz1⟩
  have P1 := (show Hid (Prob w1 wB.heap.size 0 n ln wh tx) from hp1)
  have B1 := (show Hid (Below wB.heap.size wB w1) from hb1)
  clear hp1 hb1
  go_wp2_with fail
  refine (new_checker _).mono ?_
  rintro e w2 ⟨rfl, hi2, hb2⟩
  have I2 := (show Hid (InvF w2 w1.heap.size []) from hi2)
  have B2 := (show Hid (Below w1.heap.size w1 w2) from hb2)
  have P2 := (show Hid (Prob w2 wB.heap.size 0 n ln wh tx) from P1.out.later hb2 hz1)
  have T2 := (show Hid (F.answers w2.tape) from (by rw [hb2.tape, B1.out.tape]; exact HF.out))
  clear hi2 hb2 P1
  go_wp2_with fail
  refine (zz_unread F w1.heap.size wB.heap.size 0 n n [] ln wh tx _ T2.out I2.out (by simpa using hn) hz1 P2.out).mono ?_
  rintro e w3 ⟨rfl, gs, hg1, hg2, hb3⟩
  have hz3 : w1.heap.size < w3.heap.size := by
    obtain ⟨v, hc, _⟩ := hg1
    exact World.block_lt_of_cell? _ _ hc
  have I3 := (show Hid (InvF w3 w1.heap.size gs) from hg1)
  have G3 := (show Hid (gs.map Prod.fst = (List.range n).map ln) from hg2)
  have B3 := (show Hid (Below w1.heap.size w1 w3) from B2.out.trans hb3)
  have P3 := (show Hid (Prob w3 wB.heap.size 0 n ln wh tx) from P2.out.later hb3 hz1)
  have T3 := (show Hid (F.answers w3.tape) from (by rw [hb3.tape]; exact T2.out))
  clear hg1 hg2 hb3 I2 B2 P2 T2
  go_wp2_with fail
  refine (new_checker _).mono ?_
  rintro e w4 ⟨rfl, hi4, hb4⟩
  have I4 := (show Hid (InvF w4 w3.heap.size []) from hi4)
  have B4 := (show Hid (Below w3.heap.size w3 w4) from hb4)
  have hpb : wB.heap.size < w3.heap.size := by omega
  have P4 := (show Hid (Prob w4 wB.heap.size 0 n ln wh tx) from P3.out.later hb4 hpb)
  have T4 := (show Hid (F.answers w4.tape) from (by rw [hb4.tape]; exact T3.out))
  clear hi4 hb4 P3 T3
  go_wp2_with fail
  refine (zz_unread F w3.heap.size wB.heap.size 0 k n [] ln wh tx _ T4.out I4.out (by simp; omega) hpb (P4.out.front hk)).mono ?_
  rintro e w5 ⟨rfl, gs1, hg1, hg2, hb5⟩
  have I5 := (show Hid (InvF w5 w3.heap.size gs1) from hg1)
  have G5 := (show Hid (gs1.map Prod.fst = (List.range k).map ln) from hg2)
  have B5 := (show Hid (Below w3.heap.size w3 w5) from B4.out.trans hb5)
  have P5 := (show Hid (Prob w5 wB.heap.size 0 n ln wh tx) from P4.out.later hb5 hpb)
  have T5 := (show Hid (F.answers w5.tape) from (by rw [hb5.tape]; exact T4.out))
  clear hg1 hg2 hb5 I4 B4 P4 T4
  obtain ⟨o, ho, hsl⟩ : ∃ o, Hid (Prob w5 wB.heap.size o (n - k) (fun j => ln (k + j)) (fun j => wh (k + j)) (fun j => tx (k + j))) ∧ ∀ wx, (Instr.slice 26 (.slice (some ⟨wB.heap.size, 0, none⟩) n n) (some (.int .i64 (k : Int))) none none).run Tryf.prog wx = .ok (.slice (some ⟨wB.heap.size, o, none⟩) (n - k) (n - k)) wx :=
    ⟨_, (show Hid _ from P5.out.rest hk), cut_probs wB.heap.size n k hk⟩
  have hl5 : gs1.length = k := by
    have := congrArg List.length G5.out
    simpa using this
  go_wp2_with fail
  refine (zz_unread F w3.heap.size wB.heap.size o (n - k) (n - k) gs1 _ _ _ _ T5.out I5.out (by omega) hpb ho.out).mono ?_
  rintro e w6 ⟨rfl, gs2, hg1, hg2, hb6⟩
  have hb36 : Below w3.heap.size w3 w6 := B5.out.trans hb6
  have hb16 : Below w1.heap.size w1 w6 := B3.out.trans (hb36.mono (by omega))
  have hbB6 : Below wB.heap.size wB w6 := B1.out.trans (hb16.mono (by omega))
  obtain ⟨ga, ca, xa, ha1, ha2⟩ := (I3.out.later hb36).form (n := n) (by have := congrArg List.length G3.out; simpa using this) h0 ln G3.out
  obtain ⟨gb, cb, xb, hb1, hb2⟩ := hg1.form (n := n) (by have := congrArg List.length hg2; simp at this; simp; omega) h0 ln (by rw [List.map_append, G5.out, hg2, range_split ln n k hk])
  have hl6 : ∀ j, j < n → w6.cell? ⟨lb, lo + j, none⟩ = some (.int .i64 (ln j)) := fun j hj => cell_later hbB6 (H3.out.l j hj)
  have HA1 := (show Hid (w6.cell? ⟨w1.heap.size, 1, none⟩ = some (.slice (some ⟨ga, 0, none⟩) n ca)) from ha1)
  have HB1 := (show Hid (w6.cell? ⟨w3.heap.size, 1, none⟩ = some (.slice (some ⟨gb, 0, none⟩) n cb)) from hb1)
  have HA2 := (show Hid (∀ i, i < n → w6.cell? ⟨ga, i * 4, none⟩ = some (.int .i64 (ln i)) ∧ w6.cell? ⟨ga, i * 4 + 1, none⟩ = some (.int .i64 2) ∧ w6.cell? ⟨ga, i * 4 + 2, none⟩ = some (.string unread) ∧ w6.cell? ⟨ga, i * 4 + 3, none⟩ = some (.string (xa i))) from ha2)
  have HB2 := (show Hid (∀ i, i < n → w6.cell? ⟨gb, i * 4, none⟩ = some (.int .i64 (ln i)) ∧ w6.cell? ⟨gb, i * 4 + 1, none⟩ = some (.int .i64 2) ∧ w6.cell? ⟨gb, i * 4 + 2, none⟩ = some (.string unread) ∧ w6.cell? ⟨gb, i * 4 + 3, none⟩ = some (.string (xb i))) from hb2)
  have HL6 := (show Hid (∀ j, j < n → w6.cell? ⟨lb, lo + j, none⟩ = some (.int .i64 (ln j))) from hl6)
  have HB6 := (show Hid (Below wB.heap.size wB w6) from hbB6)
  clear hg1 hg2 hb6 hb36 hb16 hbB6 ha1 ha2 hb1 hb2 hl6 I3 G3 B1 B3 I5 G5 B5 P5 T5 H3 HF ho hsl hl5
  go_wp2_with fail
  refine (zz_held _ _ _ HA1.out).mono ?_
  rintro e w6' ⟨rfl, rfl⟩
  go_wp2_with fail
  refine (zz_held _ _ _ HB1.out).mono ?_
  rintro e w6 ⟨rfl, rfl⟩
  clear HA1 HB1
  go_wp2
  go_loopw [15] (fun v wr => ∃ i : Nat, i ≤ n ∧ v = .int .i64 i ∧ Hid (Below w6.heap.size w6 wr)) (fun v _ => n - (intOf v).toNat)
  case atStart => exact ⟨0, by omega, rfl, Below.refl _ _⟩
  case round =>
    obtain ⟨i, hi, rfl, HR⟩ := hrel
    by_cases hlt : i < n
    · obtain ⟨a0, a1, a2, a3⟩ := HA2.out i hlt
      obtain ⟨b0, b1, b2, b3⟩ := HB2.out i hlt
      have A0 := cell_later HR.out a0
      have A1 := cell_later HR.out a1
      have A2 := cell_later HR.out a2
      have A3 := cell_later HR.out a3
      have C0 := cell_later HR.out b0
      have C1 := cell_later HR.out b1
      have C2 := cell_later HR.out b2
      have C3 := cell_later HR.out b3
      have L0 := cell_later HR.out (HL6.out i hlt)
      clear a0 a1 a2 a3 b0 b1 b2 b3
      go_wp2
      go_region_held3 (fun w' => w'.cell? ⟨ga, i * 4, none⟩ = some (.int .i64 (ln i)) ∧ w'.cell? ⟨ga, i * 4 + 1, none⟩ = some (.int .i64 2) ∧ w'.cell? ⟨ga, i * 4 + 2, none⟩ = some (.string unread) ∧ w'.cell? ⟨ga, i * 4 + 3, none⟩ = some (.string (xa i)) ∧
          w'.cell? ⟨gb, i * 4, none⟩ = some (.int .i64 (ln i)) ∧ w'.cell? ⟨gb, i * 4 + 1, none⟩ = some (.int .i64 2) ∧ w'.cell? ⟨gb, i * 4 + 2, none⟩ = some (.string unread) ∧ w'.cell? ⟨gb, i * 4 + 3, none⟩ = some (.string (xb i)) ∧ w'.cell? ⟨lb, lo + i, none⟩ = some (.int .i64 (ln i)))
        (first | (refine ⟨?_, ?_, ?_, ?_, ?_, ?_, ?_, ?_, ?_⟩ <;> assumption) | go_keep)
        (first
          | (go_at_call 10
             refine (unread_at (ln i) _ _).mono ?_
             rintro e w7 ⟨rfl, hb7⟩
             have z0 : w7.cell? ⟨ga, i * 4, none⟩ = some (.int .i64 (ln i)) := cell_later hb7 (by first | assumption | (rw [World.cell?_drew]; assumption))
             have z1 : w7.cell? ⟨ga, i * 4 + 1, none⟩ = some (.int .i64 2) := cell_later hb7 (by first | assumption | (rw [World.cell?_drew]; assumption))
             have z2 : w7.cell? ⟨ga, i * 4 + 2, none⟩ = some (.string unread) := cell_later hb7 (by first | assumption | (rw [World.cell?_drew]; assumption))
             have z3 : w7.cell? ⟨ga, i * 4 + 3, none⟩ = some (.string (xa i)) := cell_later hb7 (by first | assumption | (rw [World.cell?_drew]; assumption))
             have z4 : w7.cell? ⟨gb, i * 4, none⟩ = some (.int .i64 (ln i)) := cell_later hb7 (by first | assumption | (rw [World.cell?_drew]; assumption))
             have z5 : w7.cell? ⟨gb, i * 4 + 1, none⟩ = some (.int .i64 2) := cell_later hb7 (by first | assumption | (rw [World.cell?_drew]; assumption))
             have z6 : w7.cell? ⟨gb, i * 4 + 2, none⟩ = some (.string unread) := cell_later hb7 (by first | assumption | (rw [World.cell?_drew]; assumption))
             have z7 : w7.cell? ⟨gb, i * 4 + 3, none⟩ = some (.string (xb i)) := cell_later hb7 (by first | assumption | (rw [World.cell?_drew]; assumption))
             have z8 : w7.cell? ⟨lb, lo + i, none⟩ = some (.int .i64 (ln i)) := cell_later hb7 (by first | assumption | (rw [World.cell?_drew]; assumption))
             have HR : Hid (Below w6.heap.size w6 w7) := by first | exact HR.out.trans (hb7.mono HR.out.size) | exact HR.out.drew.trans (hb7.mono HR.out.drew.size)
             clear hb7))
      go_wp2
      go_roundw
      case rel => exact ⟨i + 1, by omega, by go_num, HR⟩
      case measure => simp [intOf]; omega
    · go_wp2
      go_ret
      exact ⟨rfl, HB6.out.trans (HR.out.mono (by have := HB6.out.size; omega))⟩
end Go.Proofs.Qxb6618561aFmt
