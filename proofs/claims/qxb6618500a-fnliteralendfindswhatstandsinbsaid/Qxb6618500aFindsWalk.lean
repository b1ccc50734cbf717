/-
  THE WALK of FnLiteralEndFindsWhatStandsInB.
-/
import Derived.Test.Qxb6618500aSplitsWalk
namespace Go.Proofs.Qxb6618500a
open Go.ChangeShapes Go.WideShapes Go.ChangeAt Go.RowKit

/-- ZZLiteralEnd's contract, the world behind it told by what it is good for. -/
theorem zz_lit_abs (a : Option Addr) (c : Nat) (s l : ByteArray) (i : Nat) (E : Int) (q : Bool) (w w0 : World) (B : Nat) (hc : s.size ≤ c) (hm : c ≤ 1048576) (hE : (i : Int) + (l.size : Int) = E) (hl : l.size ≤ 2097152) (hi : i ≤ s.size)
    (hH : Holds w a s) (hq : Plain.okL s.data.toList i l.data.toList = q) (hb : Below B w0 w) :
    Calls Try.prog 6 #[.slice a s.size c, .int .i64 i, .string l] w fun e w' => e = .returned (.tuple #[.int .i64 E, .bool q]) ∧ Hid (Holds w' a s) ∧ Hid (Below B w0 w') ∧ w.heap.size ≤ w'.heap.size := by
  subst hq hE
  refine (zz_lit_end a c s l i l.size w hc hm rfl hl hi hH).mono ?_
  rintro e w' ⟨rfl, n, rfl⟩
  exact ⟨rfl, hH.drewN n, hb.trans ⟨rfl, rfl, rfl, Nat.le_refl _, fun _ _ => rfl⟩, Nat.le_refl _⟩

theorem Holds.alloc {w : World} {a : Option Addr} {s : ByteArray} (h : Holds w a s) (o : Obj) : Holds (w.alloc o) a s := by
  refine ⟨h.1, ?_⟩
  intro x hx j hj
  have h0 := h.2 x hx j hj
  rw [World.cell?_alloc_lt _ _ _ (World.block_lt_of_cell? _ _ h0)]
  exact h0

namespace fnLiteralEndFindsWhatStandsInB

/-- A row of bytes that lies in a new block, as a string. -/
theorem conv_new (w : World) (zs : List Int) (n : Nat) (hn : zs.length = n) (f : Nat × Nat) :
    (convert 22 9 (.slice (some ⟨w.heap.size, 0, none⟩) n n)).run Try.prog (w.alloc (.cells (zs.map (Value.int .u8)).toArray 5 f)) = .ok (.string (strOfNums zs)) (w.alloc (.cells (zs.map (Value.int .u8)).toArray 5 f)) := by
  refine run_convert_bytes_arg (P := Try.prog) _ 22 5 Try.underlying22 Try.underlying5 w.heap.size 0 n n zs hn (fun t ht => ?_) 9 Try.underlying9
  rw [Nat.zero_add, World.cell?_alloc_mark]
  have ht' : t < zs.length := by omega
  simp [ht']

/-- 'rest := make([]byte, len(b)-i+1); copy(rest, b[i:]); rest[len(b)-i] = x; string(rest)'. -/
theorem rest_facts (w1 : World) (g : Nat) (s : ByteArray) (i : Nat) (b : Int) (hH : Holds w1 (some ⟨g, 0, none⟩) s) (hi : i ≤ s.size) (hsz : s.size ≤ 1048576) : ∃ (X2 : Addr) (R : Array Value) (L : ByteArray),
    (∀ wx, (Instr.makeSlice 22 (.int .i64 ((s.size : Int) - (i : Int) + 1)) (.int .i64 ((s.size : Int) - (i : Int) + 1))).run Try.prog wx = .ok (.slice (some ⟨wx.heap.size, 0, none⟩) (s.size - i + 1) (s.size - i + 1)) (wx.alloc (.cells (zeros (s.size - i + 1)) 5))) ∧
    (∀ wx, (Instr.slice 22 (.slice (some ⟨g, 0, none⟩) s.size s.size) (some (.int .i64 (i : Int))) none none).run Try.prog wx = .ok (.slice (some X2) (s.size - i) (s.size - i)) wx) ∧
    (∀ ty, (Builtin.copy_ #[22, 22] ty #[.slice (some ⟨w1.heap.size, 0, none⟩) (s.size - i + 1) (s.size - i + 1), .slice (some X2) (s.size - i) (s.size - i)]).run Try.prog (w1.alloc (.cells (zeros (s.size - i + 1)) 5)) = .ok (goInt (s.size - i : Nat)) (w1.alloc (.cells R 5))) ∧
    R[s.size - i]? = some (.int .u8 0) ∧
    (convert 22 9 (.slice (some ⟨w1.heap.size, 0, none⟩) (s.size - i + 1) (s.size - i + 1))).run Try.prog (w1.alloc (.cells (R.setIfInBounds (s.size - i) (.int .u8 b)) 5)) = .ok (.string L) (w1.alloc (.cells (R.setIfInBounds (s.size - i) (.int .u8 b)) 5)) ∧
    L.size = s.size - i + 1 := by
  have ht : Try.prog.underlying 22 = some (.slice (Try.prog.elem 22)) := by rw [elem22]; exact Try.underlying22
  have hes : (s.extract i s.size).size = s.size - i := by simp [ByteArray.size_extract]
  have hz : (zeros (s.size - i + 1)).toList.drop (s.size - i) = [Value.int .u8 0] := by
    have : (zeros (s.size - i + 1)).toList = List.replicate (s.size - i + 1) (Value.int .u8 0) := by
      unfold zeros
      rw [Nat.mul_one]
      exact toList_madeCells_one _ _
    rw [this, List.drop_replicate, show s.size - i + 1 - (s.size - i) = 1 by omega]
    rfl
  have hR : ((cellsOf (s.extract i s.size)).toList ++ (zeros (s.size - i + 1)).toList.drop (s.size - i)) = ((s.extract i s.size).data.toList.map (fun c : UInt8 => (c.toNat : Int)) ++ [0]).map (Value.int .u8) := by
    rw [hz, List.map_append, List.map_map]; rfl
  have hlen : (((s.extract i s.size).data.toList.map (fun c : UInt8 => (c.toNat : Int)) ++ [0])).length = s.size - i + 1 := by simp
  generalize hzs : (s.extract i s.size).data.toList.map (fun c : UInt8 => (c.toNat : Int)) ++ [0] = zs at hR hlen
  refine ⟨if s.size = i then ⟨g, 0, none⟩ else ⟨g, i, none⟩, (zs.map (Value.int .u8)).toArray, strOfNums (zs.set (s.size - i) b), ?_, ?_, ?_, ?_, ?_, ?_⟩
  · intro wx
    have := run_made (s.size - i + 1) (by omega) wx
    rwa [show ((s.size - i + 1 : Nat) : Int) = (s.size : Int) - (i : Int) + 1 by omega] at this
  · intro wx
    rw [run_slice_l wx 22 _ s.size s.size ht .i64 i (by omega) (by omega), elem22, sizeOf5]
    by_cases h : s.size = i
    · simp [Result.andThen, sliced, h]
    · simp [Result.andThen, sliced, h, add_plain]
  · intro ty
    have := run_copied w1 (if s.size = i then ⟨g, 0, none⟩ else ⟨g, i, none⟩) (s.size - i + 1) (s.size - i) (s.size - i) (s.extract i s.size) ty hes (by omega) (fun j hj => ?_)
    · rw [hR] at this
      exact this
    · rw [if_neg (by omega), add_plain]
      have h0 := hH.2 _ rfl (i + j) (by omega)
      rw [add_plain, Nat.zero_add] at h0
      rw [h0]
      congr 3
      simp [ByteArray.getElem_extract]
  · rw [← hzs]
    simp
  · have e1 : (zs.map (Value.int .u8)).toArray.setIfInBounds (s.size - i) (.int .u8 b) = ((zs.set (s.size - i) b).map (Value.int .u8)).toArray := by simp
    rw [e1]
    exact conv_new w1 _ _ (by simpa using hlen) _
  · rw [strOfNums_size, List.length_set, hlen]

/-- 'm := []byte(lit); orig := m[p]; m[p] = x; string(m)'. -/
theorem bytes_facts (w : World) (t : ByteArray) (n P : Nat) (b : Int) (hn : t.size = n) (hP : P < n) : ∃ (cap : Nat) (W : World) (t' : ByteArray) (ov : Int), ov = ((t.data.toList.getD P 0).toNat : Int) ∧
    (convert 9 22 (.string t)).run Try.prog w = .ok (.slice (some ⟨w.heap.size, 0, none⟩) n cap) W ∧
    W.cell? ⟨w.heap.size, P, none⟩ = some (.int .u8 ov) ∧ W.frozen? ⟨w.heap.size, P, none⟩ = false ∧
    (convert 22 9 (.slice (some ⟨w.heap.size, 0, none⟩) n cap)).run Try.prog (W.setCell ⟨w.heap.size, P, none⟩ (.int .u8 b)) = .ok (.string t') (W.setCell ⟨w.heap.size, P, none⟩ (.int .u8 b)) ∧
    t'.data.toList = t.data.toList.set P (UInt8.ofNat b.toNat) ∧
    (∀ a s, Holds w a s → Holds (W.setCell ⟨w.heap.size, P, none⟩ (.int .u8 b)) a s) ∧ (∀ w0 : World, w0.heap.size ≤ w.heap.size → Below w0.heap.size w0 w → Below w0.heap.size w0 (W.setCell ⟨w.heap.size, P, none⟩ (.int .u8 b))) := by
  subst hn
  have hPl : P < t.data.toList.length := by simpa using hP
  have hrow : ∀ cap j, j < t.size → (bytesRow t cap)[j]? = some (.int .u8 ((t.data.toList.getD j 0).toNat : Int)) := fun cap j hj => by
    rw [bytesRow_at t cap j (by simpa using hj)]
    have hj' : j < t.data.toList.length := by simpa using hj
    rw [List.getD_eq_getElem?_getD, List.getElem?_eq_getElem hj']
    simp
  generalize hcap : grownCap w t.size 0 5 = cap
  have hsz : t.size ≤ (bytesRow t cap).size := by simp [bytesRow]
  have hcell : ∀ j, j < t.size → (w.drew.alloc (.cells (bytesRow t cap) 5 ((bytesRow t cap).size, (bytesRow t cap).size + 1))).cell? ⟨w.heap.size, j, none⟩ = some (.int .u8 ((t.data.toList.getD j 0).toNat : Int)) := fun j hj => by
    have := World.cell?_alloc_mark w.drew (bytesRow t cap) 5 ((bytesRow t cap).size, (bytesRow t cap).size + 1) j
    rw [show w.drew.heap.size = w.heap.size from rfl] at this
    rw [this, hrow cap j hj]
  refine ⟨cap, w.drew.alloc (.cells (bytesRow t cap) 5 ((bytesRow t cap).size, (bytesRow t cap).size + 1)), strOfNums ((t.data.toList.map (fun c : UInt8 => (c.toNat : Int))).set P b), _, rfl, ?_, hcell P hP, ?_, ?_, ?_, ?_, ?_⟩
  · have := run_bytes_of_string (P := Try.prog) w 9 22 5 t Try.underlying9 Try.underlying22 Try.underlying5
    rwa [hcap] at this
  · have := World.frozen?_alloc_mark w.drew (bytesRow t cap) 5 (bytesRow t cap).size ((bytesRow t cap).size + 1) P
    rw [show w.drew.heap.size = w.heap.size from rfl] at this
    rw [this, decide_eq_false (by omega), Bool.false_and]
  · refine run_convert_bytes_arg (P := Try.prog) _ 22 5 Try.underlying22 Try.underlying5 w.heap.size 0 t.size cap _ (by simp) (fun j hj => ?_) 9 Try.underlying9
    rw [Nat.zero_add]
    have hjl : j < t.data.toList.length := by simpa using hj
    by_cases hjP : j = P
    · subst hjP
      rw [World.cell?_setCell_same _ _ _ (hcell j hj)]
      have hl : j < ((t.data.toList.map (fun c : UInt8 => (c.toNat : Int))).set j b).length := by simpa using hj
      rw [List.getD_eq_getElem?_getD, List.getElem?_eq_getElem hl]
      simp
    · have hne : ¬ P = j := fun h => hjP h.symm
      rw [World.cell?_setCell_other _ _ _ _ (by simp), hcell j hj]
      have hl : j < ((t.data.toList.map (fun c : UInt8 => (c.toNat : Int))).set P b).length := by simpa using hj
      have e1 : ((t.data.toList.map (fun c : UInt8 => (c.toNat : Int))).set P b).getD j 0 = ((t.data.toList.getD j 0).toNat : Int) := by
        rw [List.getD_eq_getElem?_getD, List.getElem?_eq_getElem hl, List.getD_eq_getElem?_getD, List.getElem?_eq_getElem hjl]
        simp [hne]
      rw [e1]
  · have e1 : t.data.toList.map ((fun n : Int => UInt8.ofNat n.toNat) ∘ fun c : UInt8 => (c.toNat : Int)) = t.data.toList := by
      refine (List.map_congr_left (g := id) ?_).trans (List.map_id _)
      intro c _
      simp
    rw [strOfNums_data, List.map_set, List.map_map, e1]
  · intro a s hH
    refine ⟨hH.1, ?_⟩
    intro x hx j hj
    have h0 := hH.2 x hx j hj
    have hlt := World.block_lt_of_cell? _ _ h0
    have hne : (x.add j).block ≠ w.heap.size := by omega
    rw [World.cell?_setCell_other _ _ _ _ (fun e => hne (by rw [← e])), World.cell?_alloc_lt _ _ _ (by exact hlt)]
    exact h0
  · intro w0 h0 hb
    exact ((hb.drew).alloc h0 _).setCell h0 _

theorem size_of (t' t : ByteArray) {P : Nat} {c : UInt8} (h : t'.data.toList = t.data.toList.set P c) : t'.size = t.size := by
  have := congrArg List.length h
  simpa using this

/-- The answer on the turned piece. -/
theorem turned (s t t' : ByteArray) (i j P : Nat) (b : Int) (hb : 0 ≤ b ∧ b ≤ 255) (hij : i ≤ j) (hj : j ≤ s.size) (hP : P < j - i) (ht : t.data.toList = (s.data.toList.drop i).take (j - i)) (ht' : t'.data.toList = t.data.toList.set P (UInt8.ofNat b.toNat)) :
    Plain.okL s.data.toList i t'.data.toList = (b == ((t.data.toList.getD P 0).toNat : Int)) := by
  rw [ht', ht, Plain.okL_set s.data.toList i j P _ hij (by simpa using hj) hP]
  generalize ((s.data.toList.drop i).take (j - i)).getD P 0 = c
  rw [Bool.eq_iff_iff, beq_iff_eq, beq_iff_eq]
  constructor
  · intro h
    rw [← h]
    simp
    omega
  · intro h
    subst h
    simp

set_option maxHeartbeats 400000 in
theorem walk_some (x : Addr) (cap : Nat) (s : ByteArray) (i j : Nat) (p b : Int) (w : World) (hH : Holds w (some x) s) (hsz : s.size ≤ 1048576) (hij : i ≤ j) (hj : j ≤ s.size) (hb : 0 ≤ b ∧ b ≤ 255) :
    Calls Try.prog 3 #[.slice (some x) s.size cap, .int .i64 i, .int .i64 j, .int .i64 p, .int .u8 b] w fun e w' => e = .returned (.bool true) ∧ Below w.heap.size w w' := by
  have hnil := fun (w : World) => run_neq_slice_nil_any (P := Try.prog) w 22 5 (some x) s.size cap 0 0 Try.underlying22
  have hmk := run_made s.size (by omega)
  have hcp := fun ty => run_copied w x s.size s.size cap s ty rfl (Nat.le_refl _) (hH.2 x rfl)
  have e0 : ((cellsOf s).toList ++ (zeros s.size).toList.drop s.size).toArray = cellsOf s := by
    rw [List.drop_eq_nil_of_le (by simp [size_zeros])]; simp
  rw [e0] at hcp
  have hN := hid (holds_new w s)
  obtain ⟨X, h1, h2⟩ := cut_conv (some ⟨w.heap.size, 0, none⟩) s.size s i j (w.alloc (.cells (cellsOf s) 5)) (Nat.le_refl _) hN.out hij hj
  have h2 := h2 0
  rw [show (w.alloc (.cells (cellsOf s) 5)).drewN 0 = w.alloc (.cells (cellsOf s) 5) from rfl] at h2
  clear e0 hH
  go_enter Try.func3, Try.ntmps3
  go_wp2_with (go_at_call 5; go_in)
  refine (zz_lit_abs _ s.size s (s.extract i j) i j true _ w w.heap.size (Nat.le_refl _) (by omega) ?_ ?_ (by omega) hN.out ?_ ?_).mono ?_
  · simp [ByteArray.size_extract]; omega
  · simp [ByteArray.size_extract]; omega
  · rw [Lib.extract_data]; exact Plain.okL_piece _ _ _ hij (by simpa using hj)
  · exact (Below.refl _ _).alloc (Nat.le_refl _) _
  rintro e w1 ⟨rfl, hH1, hb1, hz1⟩
  clear h1 h2 hcp hnil hmk hN
  obtain ⟨X2, R, L, hmk2, hsl2, hcp2, hRm, hcv2, hL⟩ := rest_facts w1 w.heap.size s i b hH1.out (by omega) hsz
  have hL' := hid hL
  clear hL
  have hz1' : w.heap.size + 1 ≤ w1.heap.size := by simpa using hz1
  clear hz1
  go_wp2_with fail
  refine (zz_lit_abs _ s.size s L i ((s.size : Int) + 1) false _ w w.heap.size (Nat.le_refl _) (by omega) ?_ ?_ (by omega) (hH1.out.alloc _) ?_ ?_).mono ?_
  · rw [hL'.out]; omega
  · rw [hL'.out]; omega
  · exact Plain.okL_long _ _ _ (by have h0 := hL'.out; simp; omega)
  · exact hb1.out.alloc (by omega) _
  rintro e w2 ⟨rfl, hH2, hb2, hz2⟩
  clear hmk2 hsl2 hcp2 hRm hcv2 hL' hH1 hb1
  have hz2' : w.heap.size + 1 ≤ w2.heap.size := by have h0 : w1.heap.size + 1 ≤ w2.heap.size := by simpa using hz2
                                                   omega
  clear hz1' hz2
  by_cases hp : 0 ≤ p ∧ p < (j : Int) - (i : Int)
  · obtain ⟨P, rfl⟩ := Int.eq_ofNat_of_zero_le hp.1
    have hP : P < j - i := by omega
    have hts : (s.extract i j).size = j - i := by simp [ByteArray.size_extract]; omega
    obtain ⟨c3, W, t', ov, hov, hcv3, hce, hfr, hcv4, ht', hHo, hBe⟩ := bytes_facts w2 (s.extract i j) (j - i) P b hts hP
    have hov' := hid hov
    have hts' := hid hts
    clear hov
    have ht'' := hid ht'
    have hHo' := hid hHo
    have hBe' := hid hBe
    clear hts ht' hHo hBe
    go_wp2_with fail
    refine (zz_lit_abs _ s.size s t' i j (b == ov) _ w w.heap.size (Nat.le_refl _) (by omega) ?_ ?_ (by omega) (hHo'.out _ _ hH2.out) ?_ ?_).mono ?_
    · rw [size_of t' _ ht''.out, hts'.out]; omega
    · rw [size_of t' _ ht''.out, hts'.out]; omega
    · rw [hov'.out]; exact turned s (s.extract i j) t' i j P b hb hij hj hP (Lib.extract_data _ _ _) ht''.out
    · exact hBe'.out w (by omega) hb2.out
    rintro e w3 ⟨rfl, hH3, hb3, hz3⟩
    clear hcv3 hce hfr hcv4 hz3 hHo' hBe' ht'' hts' hH2 hb2
    go_wp2
    go_ret
    exact ⟨rfl, hb3.out⟩
  · have hp' : p < 0 ∨ (0 ≤ p ∧ (j : Int) - (i : Int) ≤ p) := by omega
    clear hp
    rcases hp' with hp' | ⟨hp', hp2⟩
    all_goals
      go_wp2
      go_ret
      exact ⟨rfl, hb2.out⟩

theorem holds_nil (w : World) : Holds w none ByteArray.empty := ⟨fun _ => rfl, fun x hx => by cases hx⟩

theorem zz_nil (l : ByteArray) (E : Int) (q : Bool) (w w0 : World) (B : Nat) (hE : (l.size : Int) = E) (hl : l.size ≤ 2097152) (hq : Plain.okL [] 0 l.data.toList = q) (hb : Below B w0 w) :
    Calls Try.prog 6 #[.slice none 0 0, .int .i64 0, .string l] w fun e w' => e = .returned (.tuple #[.int .i64 E, .bool q]) ∧ Hid (Below B w0 w') ∧ w.heap.size ≤ w'.heap.size := by
  refine (zz_lit_abs none 0 ByteArray.empty l 0 E q w w0 B (Nat.le_refl _) (by omega) (by omega) hl (Nat.le_refl _) (holds_nil w) hq hb).mono ?_
  rintro e w' ⟨rfl, _, h2, h3⟩
  exact ⟨rfl, h2, h3⟩

theorem zeros_one : zeros 1 = #[.int .u8 0] := by
  apply Array.toList_inj.1
  show (zeros 1).toList = [.int .u8 0]
  unfold zeros
  exact toList_madeCells_one _ _
theorem made_one (W : World) : (Instr.makeSlice 22 (.int .i64 1) (.int .i64 1)).run Try.prog W = .ok (.slice (some ⟨W.heap.size, 0, none⟩) 1 1) (W.alloc (.cells #[.int .u8 0] 5)) := by
  have := run_made 1 (by omega) W
  rw [zeros_one] at this
  exact this

set_option maxHeartbeats 400000 in
theorem walk_nil (p b : Int) (w : World) :
    Calls Try.prog 3 #[.slice none 0 0, .int .i64 0, .int .i64 0, .int .i64 p, .int .u8 b] w fun e w' => e = .returned (.bool true) ∧ Below w.heap.size w w' := by
  have hnil := fun (w : World) => run_neq_slice_nil_any (P := Try.prog) w 22 5 none 0 0 0 0 Try.underlying22
  have hc0 := fun (w : World) => run_convert_bytes_nil (P := Try.prog) w 22 5 Try.underlying22 Try.underlying5 0 0 9 Try.underlying9
  go_enter Try.func3, Try.ntmps3
  go_wp2_with (go_at_call 5; go_in)
  refine (zz_nil ByteArray.empty 0 true _ w w.heap.size rfl (by decide) rfl (Below.refl _ _)).mono ?_
  rintro e w1 ⟨rfl, hb1, hz1⟩
  have hmk : ∀ W : World, (Instr.makeSlice 22 (.int .i64 1) (.int .i64 1)).run Try.prog W = .ok (.slice (some ⟨W.heap.size, 0, none⟩) 1 1) (W.alloc (.cells #[.int .u8 0] 5)) := made_one
  have hcv : (convert 22 9 (.slice (some ⟨w1.heap.size, 0, none⟩) 1 1)).run Try.prog (w1.alloc (.cells #[.int .u8 b] 5)) = .ok (.string (strOfNums [b])) (w1.alloc (.cells #[.int .u8 b] 5)) := conv_new w1 [b] 1 rfl (0, 0)
  have hcp := fun (ty : TypeId) (W : World) => run_copy_nil (P := Try.prog) W 22 22 ty 5 ⟨w1.heap.size, 0, none⟩ 1 1 Try.underlying22 (by kernel_rfl)
  generalize hl : strOfNums [b] = L at hcv
  have hL : L.size = 1 := by rw [← hl, strOfNums_size]; rfl
  have hL' := hid hL
  clear hl hL
  go_wp2_with fail
  refine (zz_nil L 1 false _ w w.heap.size ?_ ?_ ?_ ?_).mono ?_
  · rw [hL'.out]; rfl
  · rw [hL'.out]; omega
  · exact Plain.okL_long _ _ _ (by have h0 := hL'.out; simp; omega)
  · exact hb1.out.alloc hz1 _
  rintro e w2 ⟨rfl, hb2, hz2⟩
  clear hnil hc0 hmk hcv hcp hL' hb1 hz1 hz2
  by_cases hp : p < 0
  · go_wp2
    go_ret
    exact ⟨rfl, hb2.out⟩
  · have hp' : 0 ≤ p := by omega
    go_wp2
    go_ret
    exact ⟨rfl, hb2.out⟩

set_option linter.unusedVariables false in
set_option maxHeartbeats 1000000 in
/-- THE WALK, as the shell asks it. -/
theorem walk (a0 : Option Addr) (len0 cap0 : Nat) (z0 : List Int) (a1 : Int) (a2 : Int) (a3 : Int) (a4 : Int) (w : World) (w0 : IsRow .u8 w a0 len0 cap0 z0) (w1 : (Lit.int .i64 a1).wf = true) (w2 : (Lit.int .i64 a2).wf = true) (w3 : (Lit.int .i64 a3).wf = true) (w4 : (Lit.int .u8 a4).wf = true) :
    Calls Try.prog 3 #[.slice a0 len0 cap0, .int .i64 a1, .int .i64 a2, .int .i64 a3, .int .u8 a4] w fun e w' => e = .returned (.bool true) ∧ Below w.heap.size w w' := by
  obtain ⟨s, hs, hH, hn⟩ := row_bytes w0
  have hb := bounds_u8 w4
  clear w0
  by_cases c1 : len0 ≤ 1048576
  · by_cases c3 : 0 ≤ a1 ∧ a1 ≤ a2 ∧ a2 ≤ len0
    · obtain ⟨i, rfl⟩ := Int.eq_ofNat_of_zero_le c3.1
      obtain ⟨j, rfl⟩ := Int.eq_ofNat_of_zero_le (show 0 ≤ a2 by omega)
      cases a0 with
      | none =>
        obtain ⟨rfl, rfl⟩ := hn rfl
        obtain rfl : i = 0 := by omega
        obtain rfl : j = 0 := by omega
        exact walk_nil a3 a4 w
      | some x =>
        subst hs
        exact walk_some x cap0 s i j a3 a4 w hH c1 (by omega) (by omega) hb
    · have c3' : a1 < 0 ∨ (0 ≤ a1 ∧ a2 < a1) ∨ (0 ≤ a1 ∧ a1 ≤ a2 ∧ (len0 : Int) < a2) := by omega
      clear hH hn hs c3 hb
      rcases c3' with c3' | ⟨c3', c5'⟩ | ⟨c3', c5', c6'⟩
      all_goals
        go_enter Try.func3, Try.ntmps3
        go_wp2
        go_ret
        exact ⟨rfl, Below.refl _ _⟩
  · have c1' : (1048576 : Int) < (len0 : Int) := by omega
    clear hH hn hs c1 hb
    go_enter Try.func3, Try.ntmps3
    go_wp2
    go_ret
    exact ⟨rfl, Below.refl _ _⟩
end fnLiteralEndFindsWhatStandsInB
end Go.Proofs.Qxb6618500a
