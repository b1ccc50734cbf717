/-
  zzProblems.
-/
import Derived.Test.Qxb6618561aFmtUnread
import Derived.Deep.RegionHeld3
namespace Go.Proofs.Qxb6618561aFmt
open Go.ChangeShapes Go.WideShapes Go.ChangeAt Go.RowKit

theorem Tryf.info40 : (Tryf.prog.info? 40).map (fun i => (i.zero, i.size, i.bytes)) = some (some (.agg #[.int .i64 0, .string ByteArray.empty, .string ByteArray.empty]), 3, 40) := by kernel_rfl

theorem made_probs (n : Nat) (hn : n ≤ 1048576) : ∃ Z : Array Value, Z.size = n * 3 ∧ ∀ w, (Instr.makeSlice 26 (.int .i64 (n : Int)) (.int .i64 (n : Int))).run Tryf.prog w = .ok (.slice (some ⟨w.heap.size, 0, none⟩) n n) (w.alloc (.cells Z 40)) := by
  obtain ⟨i, hi, hz, hs, hb⟩ := info_parts Tryf.info40
  refine ⟨madeCells (Value.agg #[.int .i64 0, .string ByteArray.empty, .string ByteArray.empty]).cells (n * 3), size_madeCells _ _, fun w => ?_⟩
  have := run_make (P := Tryf.prog) w 26 40 i _ Tryf.underlying26 hi hz .i64 .i64 (n : Int) (n : Int) (by omega) (by omega) (by rw [hb]; omega) (by omega)
  rw [this, hs]
  simp

/-- The new row after k rounds. -/
structure Made (w wr : World) (H n k : Nat) (ln : Nat → Int) (wh tx : Nat → ByteArray) : Prop where
  there : ∀ j, j < n * 3 → ∃ v, wr.cell? ⟨H, j, none⟩ = some v
  free : ∀ j, j < n * 3 → wr.frozen? ⟨H, j, none⟩ = false
  done : Prob wr H 0 k ln wh tx
  below : Below H w wr
  size : H < wr.heap.size

theorem Made.start (w : World) (n : Nat) (Z : Array Value) (hZ : Z.size = n * 3) (ln : Nat → Int) (wh tx : Nat → ByteArray) : Made w (w.alloc (.cells Z 40)) w.heap.size n 0 ln wh tx :=
  ⟨fun j hj => ⟨Z[j]'(by omega), by rw [World.cell?_alloc_new]; exact Array.getElem?_eq_getElem _⟩, fun j _ => World.frozen?_alloc_new _ _ _ _, fun j hj => by omega, (Below.refl _ _).alloc (Nat.le_refl _) _, by simp⟩

theorem Made.step {w wr : World} {H n k : Nat} {ln : Nat → Int} {wh tx : Nat → ByteArray} (h : Made w wr H n k ln wh tx) (hk : k < n) :
    Made w ((((wr.setCell ⟨H, k * 3, none⟩ (.int .i64 (ln k))).setCell ⟨H, k * 3 + 1, none⟩ (.string (wh k))).setCell ⟨H, k * 3 + 2, none⟩ (.string (tx k))).drew) H n (k + 1) ln wh tx := by
  have other : ∀ j, j ≠ k * 3 → j ≠ k * 3 + 1 → j ≠ k * 3 + 2 → ((((wr.setCell ⟨H, k * 3, none⟩ (.int .i64 (ln k))).setCell ⟨H, k * 3 + 1, none⟩ (.string (wh k))).setCell ⟨H, k * 3 + 2, none⟩ (.string (tx k))).drew).cell? ⟨H, j, none⟩ = wr.cell? ⟨H, j, none⟩ := by
    intro j h1 h2 h3
    rw [World.cell?_drew, World.cell?_setCell_other _ _ _ _ (fun e => h3 (congrArg Addr.off e).symm), World.cell?_setCell_other _ _ _ _ (fun e => h2 (congrArg Addr.off e).symm), World.cell?_setCell_other _ _ _ _ (fun e => h1 (congrArg Addr.off e).symm)]
  obtain ⟨v0, c0⟩ := h.there (k * 3) (by omega)
  obtain ⟨v1, c1⟩ := h.there (k * 3 + 1) (by omega)
  obtain ⟨v2, c2⟩ := h.there (k * 3 + 2) (by omega)
  have e0 : ((((wr.setCell ⟨H, k * 3, none⟩ (.int .i64 (ln k))).setCell ⟨H, k * 3 + 1, none⟩ (.string (wh k))).setCell ⟨H, k * 3 + 2, none⟩ (.string (tx k))).drew).cell? ⟨H, k * 3, none⟩ = some (.int .i64 (ln k)) := by
    rw [World.cell?_drew, World.cell?_setCell_other _ _ _ _ (by simp), World.cell?_setCell_other _ _ _ _ (by simp), World.cell?_setCell_same _ _ _ c0]
  have e1 : ((((wr.setCell ⟨H, k * 3, none⟩ (.int .i64 (ln k))).setCell ⟨H, k * 3 + 1, none⟩ (.string (wh k))).setCell ⟨H, k * 3 + 2, none⟩ (.string (tx k))).drew).cell? ⟨H, k * 3 + 1, none⟩ = some (.string (wh k)) := by
    rw [World.cell?_drew, World.cell?_setCell_other _ _ _ _ (by simp), World.cell?_setCell_same _ _ _ (by rw [World.cell?_setCell_other _ _ _ _ (by simp)]; exact c1)]
  have e2 : ((((wr.setCell ⟨H, k * 3, none⟩ (.int .i64 (ln k))).setCell ⟨H, k * 3 + 1, none⟩ (.string (wh k))).setCell ⟨H, k * 3 + 2, none⟩ (.string (tx k))).drew).cell? ⟨H, k * 3 + 2, none⟩ = some (.string (tx k)) := by
    rw [World.cell?_drew, World.cell?_setCell_same _ _ _ (by rw [World.cell?_setCell_other _ _ _ _ (by simp), World.cell?_setCell_other _ _ _ _ (by simp)]; exact c2)]
  refine ⟨?_, ?_, ?_, ?_, ?_⟩
  · intro j hj
    by_cases h0 : j = k * 3
    · subst h0; exact ⟨_, e0⟩
    · by_cases h1 : j = k * 3 + 1
      · subst h1; exact ⟨_, e1⟩
      · by_cases h2 : j = k * 3 + 2
        · subst h2; exact ⟨_, e2⟩
        · rw [other j h0 h1 h2]; exact h.there j hj
  · intro j hj
    show (((wr.setCell _ _).setCell _ _).setCell _ _).frozen? _ = false
    rw [World.frozen?_setCell, World.frozen?_setCell, World.frozen?_setCell]
    exact h.free j hj
  · intro j hj
    simp only [Nat.zero_add]
    by_cases hjk : j = k
    · subst hjk; exact ⟨e0, e1, e2⟩
    · obtain ⟨q1, q2, q3⟩ := h.done j (by omega)
      simp only [Nat.zero_add] at q1 q2 q3
      rw [other _ (by omega) (by omega) (by omega), other _ (by omega) (by omega) (by omega), other _ (by omega) (by omega) (by omega)]
      exact ⟨q1, q2, q3⟩
  · exact (((h.below.setCell (Nat.le_refl H) _).setCell (Nat.le_refl H) _).setCell (Nat.le_refl H) _).trans ⟨rfl, rfl, rfl, Nat.le_refl _, fun _ _ => rfl⟩
  · simpa using h.size

/-- What the three slices hold. -/
structure Three (w : World) (lb lo wb wo tb to n : Nat) (ln : Nat → Int) (wh tx : Nat → ByteArray) : Prop where
  l : ∀ j, j < n → w.cell? ⟨lb, lo + j, none⟩ = some (.int .i64 (ln j))
  s : ∀ j, j < n → w.cell? ⟨wb, wo + j, none⟩ = some (.string (wh j))
  t : ∀ j, j < n → w.cell? ⟨tb, to + j, none⟩ = some (.string (tx j))

set_option maxHeartbeats 1000000 in
theorem probs_some (lb lo lc wb wo wc tb to tc n : Nat) (ln : Nat → Int) (wh tx : Nat → ByteArray) (w : World) (hn : n ≤ 1048576) (h0 : 0 < n) (h3 : Three w lb lo wb wo tb to n ln wh tx) :
    Calls Tryf.prog 6 #[.slice (some ⟨lb, lo, none⟩) n lc, .slice (some ⟨wb, wo, none⟩) n wc, .slice (some ⟨tb, to, none⟩) n tc] w fun e w' => e = .returned (.slice (some ⟨w.heap.size, 0, none⟩) n n) ∧ Prob w' w.heap.size 0 n ln wh tx ∧ Below w.heap.size w w' ∧ w.heap.size < w'.heap.size := by
  obtain ⟨Z, hZ, hmk⟩ := made_probs n hn
  have hlb : lb < w.heap.size := World.block_lt_of_cell? _ _ (h3.l 0 h0)
  have hwb : wb < w.heap.size := World.block_lt_of_cell? _ _ (h3.s 0 h0)
  have htb : tb < w.heap.size := World.block_lt_of_cell? _ _ (h3.t 0 h0)
  have H0 := (show Hid (Made w (w.alloc (.cells Z 40)) w.heap.size n 0 ln wh tx) from Made.start w n Z hZ ln wh tx)
  have H3 := (show Hid (Three w lb lo wb wo tb to n ln wh tx) from h3)
  clear hZ h3
  go_enter Tryf.func6, Tryf.ntmps6
  go_wp2
  go_loopw [8] (fun v wr => ∃ k : Nat, k ≤ n ∧ v = .int .i64 k ∧ Hid (Made w wr w.heap.size n k ln wh tx)) (fun v _ => n - (intOf v).toNat)
  case atStart => exact ⟨0, by omega, rfl, H0.out⟩
  case round =>
    obtain ⟨k, hk, rfl, HM⟩ := hrel
    by_cases hlt : k < n
    · have hB := HM.out.below
      have c0 := (hB.cell (p := ⟨lb, lo + k, none⟩) hlb).trans (H3.out.l k hlt)
      have c1 := (hB.cell (p := ⟨wb, wo + k, none⟩) hwb).trans (H3.out.s k hlt)
      have c2 := (hB.cell (p := ⟨tb, to + k, none⟩) htb).trans (H3.out.t k hlt)
      obtain ⟨v0, d0⟩ := HM.out.there (k * 3) (by omega)
      obtain ⟨v1, d1⟩ := HM.out.there (k * 3 + 1) (by omega)
      obtain ⟨v2, d2⟩ := HM.out.there (k * 3 + 2) (by omega)
      have f0 := HM.out.free (k * 3) (by omega)
      have f1 := HM.out.free (k * 3 + 1) (by omega)
      have f2 := HM.out.free (k * 3 + 2) (by omega)
      have hn1 : ¬ w.heap.size = lb := by omega
      have hn2 : ¬ w.heap.size = wb := by omega
      have hn3 : ¬ w.heap.size = tb := by omega
      clear hB
      go_wp2
      go_region_held3 (fun w' => w'.cell? ⟨lb, lo + k, none⟩ = some (.int .i64 (ln k)) ∧ w'.cell? ⟨wb, wo + k, none⟩ = some (.string (wh k)) ∧ w'.cell? ⟨tb, to + k, none⟩ = some (.string (tx k))) (go_keep) (fail)
      go_wp2
      go_roundw
      case rel => exact ⟨k + 1, by omega, by go_num, HM.out.step hlt⟩
      case measure => simp [intOf]; omega
    · go_wp2
      go_ret
      have hkn : k = n := by omega
      subst hkn
      exact ⟨rfl, HM.out.done, HM.out.below, HM.out.size⟩
end Go.Proofs.Qxb6618561aFmt
