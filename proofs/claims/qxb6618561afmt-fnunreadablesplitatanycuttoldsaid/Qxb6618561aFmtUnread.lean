/-
  (*checker).unreadable and ZZunreadable.
-/
import Derived.Test.Qxb6618561aFmtAdd
namespace Go.Proofs.Qxb6618561aFmt
open Go.ChangeShapes Go.WideShapes Go.ChangeAt Go.RowKit
open Go.Extern.Stop Go.Stop Go.Extern

/-- The findings' cells. -/
def cellsF (fs : List (Int × ByteArray)) : List Value := fs.flatMap fun f => find4 f.1 f.2
/-- A checker at block B with the findings fs. -/
def InvF (w : World) (B : Nat) (fs : List (Int × ByteArray)) : Prop := Inv w B fs.length (cellsF fs)
theorem cellsF_snoc (fs : List (Int × ByteArray)) (l : Int) (t : ByteArray) : cellsF (fs ++ [(l, t)]) = cellsF fs ++ find4 l t := by
  simp [cellsF]

/-- Problem j of the row that begins at ⟨pb, o⟩. -/
def Prob (w : World) (pb o : Nat) (m : Nat) (ln : Nat → Int) (wh tx : Nat → ByteArray) : Prop :=
  ∀ j, j < m → w.cell? ⟨pb, o + j * 3, none⟩ = some (.int .i64 (ln j)) ∧ w.cell? ⟨pb, o + j * 3 + 1, none⟩ = some (.string (wh j)) ∧ w.cell? ⟨pb, o + j * 3 + 2, none⟩ = some (.string (tx j))

theorem Inv.alloc {w : World} {B n : Nat} {xs : List Value} (h : Inv w B n xs) (o : Obj) : Inv (w.alloc o) B n xs := by
  obtain ⟨v, hc, hf, ho⟩ := h
  have hB : B < w.heap.size := World.block_lt_of_cell? _ _ hc
  exact ⟨v, by rw [World.cell?_alloc_lt _ _ _ hB]; exact hc, by rw [World.frozen?_alloc_old _ _ _ (Nat.ne_of_lt hB)]; exact hf, ho.alloc o⟩
theorem InvF.alloc {w : World} {B : Nat} {fs : List (Int × ByteArray)} (h : InvF w B fs) (o : Obj) : InvF (w.alloc o) B fs := Inv.alloc h o
theorem cell_new2 (w : World) (o : Obj) (c : Array Value) (t : TypeId) (i : Nat) {v : Value} (h : c[i]? = some v) : ((w.alloc o).alloc (.cells c t)).cell? ⟨w.heap.size + 1, i, none⟩ = some v := by
  have := World.cell?_alloc_new (w.alloc o) c t i
  rw [show (w.alloc o).heap.size = w.heap.size + 1 by simp] at this
  rw [this, h]
theorem step_end {w wr w2 : World} {o1 o2 : Obj} {B k : Nat} {fs gs : List (Int × ByteArray)} {ln : Nat → Int} {T : ByteArray} (i2 : gs.map Prod.fst = (List.range k).map ln) (i3 : Below B w wr) (hB : B < w.heap.size)
    (hI : Inv w2 B ((fs ++ gs).length + 1) (cellsF (fs ++ gs) ++ find4 (ln k) T)) (hb : Below B ((wr.alloc o1).alloc o2) w2) : ∃ gs, InvF w2 B (fs ++ gs) ∧ gs.map Prod.fst = (List.range (k + 1)).map ln ∧ Below B w w2 := by
  refine ⟨gs ++ [(ln k, T)], ?_, ?_, ?_⟩
  · unfold InvF
    rw [← List.append_assoc, cellsF_snoc, List.length_append]
    exact hI
  · rw [List.map_append, i2, List.range_succ, List.map_append]
    rfl
  · have hz := i3.size
    exact ((i3.alloc (by omega) o1).alloc (by simp; omega) o2).trans hb

set_option maxHeartbeats 1000000 in
theorem unread_any (F : Interp) (B pb o m c : Nat) (fs : List (Int × ByteArray)) (ln : Nat → Int) (wh tx : Nat → ByteArray) (w : World) (hF : F.answers w.tape) (hI : InvF w B fs) (hn : fs.length + m ≤ 1048576) (hpb : pb < B) (hP : Prob w pb o m ln wh tx) :
    Calls Tryf.prog 12 #[.pointer (some ⟨B, 0, none⟩), .slice (some ⟨pb, o, none⟩) m c] w fun e w' => e = .returned (.tuple #[]) ∧ ∃ gs, InvF w' B (fs ++ gs) ∧ gs.map Prod.fst = (List.range m).map ln ∧ Below B w w' := by
  have HI := (show Hid (InvF w B fs) from hI)
  have HP := (show Hid (Prob w pb o m ln wh tx) from hP)
  have HF := (show Hid (F.answers w.tape) from hF)
  have hBw : B < w.heap.size := by
    obtain ⟨v, hc, _⟩ := hI
    exact World.block_lt_of_cell? _ _ hc
  clear hI hP hF
  go_enter Tryf.func12, Tryf.ntmps12
  go_wp2
  go_loopw [8] (fun v wr => ∃ k : Nat, k ≤ m ∧ v = .int .i64 k ∧ Hid (∃ gs, InvF wr B (fs ++ gs) ∧ gs.map Prod.fst = (List.range k).map ln ∧ Below B w wr)) (fun v _ => m - (intOf v).toNat)
  case atStart => exact ⟨0, by omega, rfl, [], by rw [List.append_nil]; exact HI.out, rfl, Below.refl _ _⟩
  case round =>
    obtain ⟨k, hk, rfl, HR⟩ := hrel
    by_cases hlt : k < m
    · obtain ⟨gs, i1, i2, i3⟩ := HR.out
      obtain ⟨p1, p2, p3⟩ := HP.out k hlt
      have hpw : pb < wr.heap.size := by have := i3.size; omega
      have q1 := (i3.cell (p := ⟨pb, o + k * 3, none⟩) hpb).trans p1
      have q2 := (i3.cell (p := ⟨pb, o + k * 3 + 1, none⟩) hpb).trans p2
      have q3 := (i3.cell (p := ⟨pb, o + k * 3 + 2, none⟩) hpb).trans p3
      clear p1 p2 p3 HR
      have I1 := (show Hid (InvF wr B (fs ++ gs)) from i1)
      have I2 := (show Hid (gs.map Prod.fst = (List.range k).map ln) from i2)
      have I3 := (show Hid (Below B w wr) from i3)
      have i4 : gs.length = k := by have := congrArg List.length i2; simpa using this
      have I4 := (show Hid (gs.length = k) from i4)
      clear i4
      clear i1 i2 i3
      by_cases ht : (tx k).toList.isEmpty = true
      · go_wp2_with fail
        refine (add_s F B (fs ++ gs).length (wr.heap.size + 1) (cellsF (fs ++ gs)) (ln k) (wh k) _ (by exact (show F.answers wr.tape by rw [I3.out.tape]; exact HF.out)) (by exact (I1.out.alloc _).alloc _) (by simp; have := I4.out; omega) (by exact cell_new2 _ _ _ _ _ rfl)).mono ?_
        rintro e w2 ⟨rfl, T, hI2, hb2⟩
        have R := (show Hid (∃ gs, InvF w2 B (fs ++ gs) ∧ gs.map Prod.fst = (List.range (k + 1)).map ln ∧ Below B w w2) from step_end I2.out I3.out hBw hI2 hb2)
        clear hI2 hb2 I1 I2 I3 I4 q1 q2 q3
        go_wp2
        go_roundw
        case rel => exact ⟨k + 1, by omega, by go_num, R⟩
        case measure => simp [intOf]; omega
      · have ht' : (tx k).toList.isEmpty = false := by simpa using ht
        clear ht
        go_wp2_with fail
        refine (add_sq F B (fs ++ gs).length (wr.heap.size + 1) (cellsF (fs ++ gs)) (ln k) (wh k) (tx k) _ (by exact (show F.answers wr.tape by rw [I3.out.tape]; exact HF.out)) (by exact (I1.out.alloc _).alloc _) (by simp; have := I4.out; omega) (by exact cell_new2 _ _ _ _ _ rfl) (by exact cell_new2 _ _ _ _ _ rfl)).mono ?_
        rintro e w2 ⟨rfl, T, hI2, hb2⟩
        have R := (show Hid (∃ gs, InvF w2 B (fs ++ gs) ∧ gs.map Prod.fst = (List.range (k + 1)).map ln ∧ Below B w w2) from step_end I2.out I3.out hBw hI2 hb2)
        clear hI2 hb2 I1 I2 I3 I4 q1 q2 q3
        go_wp2
        go_roundw
        case rel => exact ⟨k + 1, by omega, by go_num, R⟩
        case measure => simp [intOf]; omega
    · go_wp2
      go_end0
      obtain ⟨gs, i1, i2, i3⟩ := HR.out
      have hkm : k = m := by omega
      subst hkm
      exact ⟨rfl, gs, i1, i2, i3⟩

theorem zz_unread (F : Interp) (B pb o m c : Nat) (fs : List (Int × ByteArray)) (ln : Nat → Int) (wh tx : Nat → ByteArray) (w : World) (hF : F.answers w.tape) (hI : InvF w B fs) (hn : fs.length + m ≤ 1048576) (hpb : pb < B) (hP : Prob w pb o m ln wh tx) :
    Calls Tryf.prog 8 #[.pointer (some ⟨B, 0, none⟩), .slice (some ⟨pb, o, none⟩) m c] w fun e w' => e = .returned (.tuple #[]) ∧ ∃ gs, InvF w' B (fs ++ gs) ∧ gs.map Prod.fst = (List.range m).map ln ∧ Below B w w' := by
  have HI := (show Hid (InvF w B fs) from hI)
  have HP := (show Hid (Prob w pb o m ln wh tx) from hP)
  have HF := (show Hid (F.answers w.tape) from hF)
  clear hI hP hF
  go_enter Tryf.func8, Tryf.ntmps8
  go_wp2_with fail
  refine (unread_any F B pb o m c fs ln wh tx _ HF.out HI.out hn hpb HP.out).mono ?_
  rintro e w2 ⟨rfl, R⟩
  have HR := (show Hid (∃ gs, InvF w2 B (fs ++ gs) ∧ gs.map Prod.fst = (List.range m).map ln ∧ Below B w w2) from R)
  clear R
  go_wp2
  go_end0
  exact ⟨rfl, HR.out⟩

/-- ZZnewChecker(). -/
theorem new_checker (w : World) : Calls Tryf.prog 7 #[] w fun e w' => e = .returned (.pointer (some ⟨w.heap.size, 0, none⟩)) ∧ InvF w' w.heap.size [] ∧ Below w.heap.size w w' := by
  go_enter Tryf.func7, Tryf.ntmps7
  go_wp2
  go_ret
  refine ⟨rfl, ⟨.slice none 0 0, ?_, ?_, World.ownsRow_nil _ _ _ _⟩, (Below.refl _ _).alloc (Nat.le_refl _) _⟩
  · rw [World.cell?_alloc_new]; rfl
  · rw [World.frozen?_alloc_new]

/-- ZZheld(c). -/
theorem zz_held (B : Nat) (v : Value) (w : World) (hc : w.cell? ⟨B, 1, none⟩ = some v) : Calls Tryf.prog 9 #[.pointer (some ⟨B, 0, none⟩)] w fun e w' => e = .returned v ∧ w' = w := by
  go_enter Tryf.func9, Tryf.ntmps9
  go_wp2
  go_ret
  exact ⟨rfl, rfl⟩

/-- zzUnreadableAt at a finding of ours. -/
theorem unread_at (line : Int) (text : ByteArray) (w : World) : Calls Tryf.prog 10 #[.agg #[.int .i64 line, .int .i64 2, .string unread, .string text], .int .i64 line] w fun e w' => e = .returned (.bool true) ∧ Below w.heap.size w w' := by
  unfold unread
  go_enter Tryf.func10, Tryf.ntmps10
  go_wp2
  go_ret
  exact ⟨rfl, (Below.refl _ _).alloc (Nat.le_refl _) _⟩
end Go.Proofs.Qxb6618561aFmt
