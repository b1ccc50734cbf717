import Derived.Test.Qxb6618500aRows
import Derived.Test.Qxb6618500aPlain
import Derived.WalkKit
import Derived.WalkSpells
import Derived.ProofKit
import Derived.BigQuiet
import Derived.Lib.SlBytesRow
import Derived.Lib.Strings
namespace Go.Proofs.Qxb6618500a
open Go.ChangeShapes Go.WideShapes Go.ChangeAt Go.RowKit

/-- The slice's elements are the bytes of s. -/
def Holds (w : World) (a : Option Addr) (s : ByteArray) : Prop :=
  (a = none → s.size = 0) ∧ ∀ x, a = some x → ∀ j, (h : j < s.size) → w.cell? (x.add j) = some (.int .u8 (s[j].toNat : Int))

theorem sizeOf5 (w : World) : (Go.sizeOf 5).run Try.prog w = .ok 1 w := by kernel_rfl
theorem elem22 : Try.prog.elem 22 = 5 := by kernel_rfl

/-- 's[i:e]' and 'string(s[i:e])', whatever the address of s[i:e] is written as. -/
theorem cut_conv (a : Option Addr) (c : Nat) (s : ByteArray) (i e : Nat) (w : World) (hc : s.size ≤ c) (hH : Holds w a s) (hie : i ≤ e) (he : e ≤ s.size) :
    ∃ X, (∀ wx, (Instr.slice 22 (.slice a s.size c) (some (.int .i64 (i : Int))) (some (.int .i64 (e : Int))) none).run Try.prog wx = .ok (.slice X (e - i) (c - i)) wx) ∧
      ∀ q, (convert 22 9 (.slice X (e - i) (c - i))).run Try.prog (w.drewN q) = .ok (.string (s.extract i e)) (w.drewN q) := by
  refine ⟨if c = i then a else a.map (·.add (i * 1)), ?_, ?_⟩
  · intro wx
    have ht : Try.prog.underlying 22 = some (.slice (Try.prog.elem 22)) := by rw [elem22]; exact Try.underlying22
    rw [run_slice_lh wx 22 a s.size c ht .i64 .i64 i e (by omega) (by omega) (by omega), elem22, sizeOf5]
    simp [Result.andThen, sliced]
  · intro q
    by_cases h0 : e - i = 0
    · have hX : s.extract i e = ByteArray.empty := by
        apply WideShapes.bytes_inj
        rw [Lib.extract_data, h0]
        simp
      rw [hX, h0]
      cases hx : (if c = i then a else a.map (·.add (i * 1))) with
      | none => exact run_convert_bytes_nil _ 22 5 Try.underlying22 Try.underlying5 _ _ 9 Try.underlying9
      | some x =>
        exact run_convert_bytes_back (P := Try.prog) _ 22 9 5 x (c - i) [] Try.underlying22 Try.underlying5 Try.underlying9 (fun j hj => by simp at hj)
    · have hne : ¬ c = i := by omega
      rw [if_neg hne]
      cases a with
      | none => have := hH.1 rfl; omega
      | some x =>
        have hcell := hH.2 x rfl
        obtain ⟨b, o, sp⟩ := x
        have hsp : sp = none := by simpa [Addr.add] using World.cell?_spot (hcell 0 (by omega))
        subst hsp
        have := Lib.run_convert_window (P := Try.prog) (w.drewN q) 22 5 9 Try.underlying22 Try.underlying5 Try.underlying9 b o s (fun j hj => by rw [World.cell?_drewN, ← add_plain]; exact hcell j hj) i (e - i) (c - i) (by omega)
        rw [show i + (e - i) = e by omega] at this
        have e0 : (⟨b, o, none⟩ : Addr).add (i * 1) = ⟨b, o + i, none⟩ := by rw [add_plain, Nat.mul_one]
        show (convert 22 9 (.slice (some ((⟨b, o, none⟩ : Addr).add (i * 1))) (e - i) (c - i))).run Try.prog (w.drewN q) = _
        rw [e0]
        exact this

theorem ret_pair {k : IntKind} {n : Int} {p q : Bool} (h : p = q) : Ending.returned (.tuple #[.int k n, .bool p]) = .returned (.tuple #[.int k n, .bool q]) := by rw [h]
theorem ok_yes (s l : ByteArray) (i : Nat) (h : i + l.size ≤ s.size) : ((s.extract i (i + l.size)).data.toList == l.data.toList) = Plain.okL s.data.toList i l.data.toList := by
  rw [Lib.extract_data]
  have e1 : l.data.toList.length = l.size := by simp
  have e2 : s.data.toList.length = s.size := by simp
  unfold Plain.okL
  rw [e1, e2, decide_eq_true h, Bool.true_and, show i + l.size - i = l.size by omega]

set_option maxHeartbeats 400000 in
theorem lit_yes (a : Option Addr) (c : Nat) (s l : ByteArray) (i : Nat) (w : World) (hc : s.size ≤ c) (hm : c ≤ 1048576) (hH : Holds w a s) (h : i + l.size ≤ s.size) :
    Calls Try.prog 8 #[.slice a s.size c, .int .i64 i, .string l] w fun e w' => e = .returned (.tuple #[.int .i64 (i + l.size), .bool (Plain.okL s.data.toList i l.data.toList)]) ∧ ∃ m, w' = w.drewN m := by
  have hle : (i : Int) + (l.size : Int) ≤ (s.size : Int) := by omega
  obtain ⟨X, h1, h2⟩ := cut_conv a c s i (i + l.size) w hc hH (by omega) h
  rw [show ((i + l.size : Nat) : Int) = (i : Int) + (l.size : Int) by omega] at h1
  rw [show i + l.size - i = l.size by omega] at h1 h2
  go_enter Try.func8, Try.ntmps8
  go_wp2
  go_quiet (fail)
  go_wp2
  go_ret2
  refine ⟨ret_pair ?_, nq, rfl⟩
  rw [ByteArray.toList_eq, ByteArray.toList_eq]
  exact ok_yes s l i h

theorem lit_no (a : Option Addr) (c : Nat) (s l : ByteArray) (i : Nat) (w : World) (hc : s.size ≤ c) (hm : c ≤ 1048576) (hl : l.size ≤ 2097152) (hi : i ≤ s.size) (h : s.size < i + l.size) :
    Calls Try.prog 8 #[.slice a s.size c, .int .i64 i, .string l] w fun e w' => e = .returned (.tuple #[.int .i64 (i + l.size), .bool (Plain.okL s.data.toList i l.data.toList)]) ∧ ∃ m, w' = w.drewN m := by
  have hle : decide ((i : Int) + (l.size : Int) ≤ (s.size : Int)) = false := by simp; omega
  go_enter Try.func8, Try.ntmps8
  go_wp2
  go_quiet (fail)
  go_wp2
  go_ret2
  exact ⟨ret_pair (Plain.okL_long _ _ _ (by simpa using h)).symm, nq, rfl⟩

/-- literalEnd. -/
theorem lit_end (a : Option Addr) (c : Nat) (s l : ByteArray) (i : Nat) (w : World) (hc : s.size ≤ c) (hm : c ≤ 1048576) (hl : l.size ≤ 2097152) (hi : i ≤ s.size) (hH : Holds w a s) :
    Calls Try.prog 8 #[.slice a s.size c, .int .i64 i, .string l] w fun e w' => e = .returned (.tuple #[.int .i64 (i + l.size), .bool (Plain.okL s.data.toList i l.data.toList)]) ∧ ∃ m, w' = w.drewN m := by
  by_cases h : i + l.size ≤ s.size
  · exact lit_yes a c s l i w hc hm hH h
  · exact lit_no a c s l i w hc hm hl hi (by omega)

/-- ZZLiteralEnd: the same; the length of l as a number of its own. -/
theorem zz_lit_end (a : Option Addr) (c : Nat) (s l : ByteArray) (i m : Nat) (w : World) (hc : s.size ≤ c) (hm : c ≤ 1048576) (hlm : l.size = m) (hl : m ≤ 2097152) (hi : i ≤ s.size) (hH : Holds w a s) :
    Calls Try.prog 6 #[.slice a s.size c, .int .i64 i, .string l] w fun e w' => e = .returned (.tuple #[.int .i64 (i + m), .bool (Plain.okL s.data.toList i l.data.toList)]) ∧ ∃ n, w' = w.drewN n := by
  subst hlm
  have hh : Hid (Holds w a s) := hH
  clear hH
  go_enter Try.func6, Try.ntmps6
  go_wp2_with fail
  refine (lit_end a c s l i _ hc hm hl hi hh.out).mono ?_
  rintro e w' ⟨rfl, m, rfl⟩
  go_wp2
  go_ret2
  exact ⟨rfl, m, rfl⟩

/-! ### The copy: 'zzc := make([]byte, len(b)); copy(zzc, b); b = zzc' -/
/-- The cells that hold the bytes of s. -/
def cellsOf (s : ByteArray) : Array Value := (s.data.toList.map fun b => Value.int .u8 (b.toNat : Int)).toArray
/-- n zero bytes. -/
def zeros (n : Nat) : Array Value := madeCells (Value.int .u8 0).cells (n * 1)
theorem size_zeros (n : Nat) : (zeros n).size = n := by unfold zeros; rw [size_madeCells, Nat.mul_one]
theorem size_cellsOf (s : ByteArray) : (cellsOf s).size = s.size := by simp [cellsOf]
theorem Try.info5 : (Try.prog.info? 5).map (fun i => (i.zero, i.size, i.bytes)) = some (some (.int .u8 0), 1, 1) := by kernel_rfl

theorem run_made (n : Nat) (hn : n ≤ 2097153) (w : World) : (Instr.makeSlice 22 (.int .i64 (n : Int)) (.int .i64 (n : Int))).run Try.prog w = .ok (.slice (some ⟨w.heap.size, 0, none⟩) n n) (w.alloc (.cells (zeros n) 5)) := by
  obtain ⟨i, hi, hz, hs, hb⟩ := info_parts Try.info5
  have := run_make (P := Try.prog) w 22 5 i (.int .u8 0) Try.underlying22 hi hz .i64 .i64 (n : Int) (n : Int) (by omega) (by omega) (by rw [hb]; omega) (by omega)
  rw [this, hs]
  simp [zeros]

theorem setRow_alloc (w : World) (c c' : Array Value) (t : TypeId) (f : Nat × Nat) : (w.alloc (.cells c t f)).setRow w.heap.size c' = w.alloc (.cells c' t f) := by
  unfold World.setRow
  have hm : ∀ (a : Array Obj) (x : Obj) (f : Obj → Obj), (a.push x).modify a.size f = a.push (f x) := by
    intro a x f
    apply Array.ext
    · simp
    · intro i h1 h2
      simp only [Array.getElem_modify, Array.getElem_push]
      by_cases h : a.size = i
      · subst h
        simp
      · have hi : i < a.size := by simp at h1; omega
        simp [h, hi]
  show ({ w with heap := (w.heap.push (.cells c t f)).modify w.heap.size _ } : World) = _
  rw [hm]
  rfl

theorem cellsOf_get (s : ByteArray) (j : Nat) (v : Value) (h : (cellsOf s).toList[j]? = some v) : ∃ hj : j < s.size, v = .int .u8 (s[j].toNat : Int) := by
  have hj : j < s.size := by
    rcases Nat.lt_or_ge j s.size with h1 | h1
    · exact h1
    · simp [cellsOf, List.getElem?_eq_none (show s.data.toList.length ≤ j by simpa using h1)] at h
  refine ⟨hj, ?_⟩
  have := byte_at s j hj
  simp only [cellsOf, List.getElem?_map, this, Option.map_some, Option.some.injEq] at h
  exact h.symm

/-- 'copy(zzc, b[i:])' into a row that has just been made: as many bytes as there are in 's'. -/
theorem run_copied (w : World) (x : Addr) (n m c : Nat) (s : ByteArray) (ty : TypeId) (hn : s.size = m) (hnm : m ≤ n) (hx : ∀ j, (h : j < s.size) → w.cell? (x.add j) = some (.int .u8 (s[j].toNat : Int))) :
    (Builtin.copy_ #[22, 22] ty #[.slice (some ⟨w.heap.size, 0, none⟩) n n, .slice (some x) m c]).run Try.prog (w.alloc (.cells (zeros n) 5)) = .ok (goInt m) (w.alloc (.cells ((cellsOf s).toList ++ (zeros n).toList.drop m).toArray 5)) := by
  subst hn
  have hlen : (cellsOf s).toList.length = s.size := by simp [size_cellsOf]
  have hg : (w.alloc (.cells (zeros n) 5)).heap[w.heap.size]? = some (.cells (zeros n) 5 (0, 0)) := by
    show (w.heap.push _)[w.heap.size]? = _
    simp
  have := run_copy_row (P := Try.prog) (w.alloc (.cells (zeros n) 5)) 22 22 ty 5 w.heap.size 0 n n x s.size c (zeros n) 5 (cellsOf s).toList Try.underlying22 (by kernel_rfl) hg
    (by rw [hlen]; exact (Nat.min_eq_left hnm).symm)
    (fun j v hv => by
      obtain ⟨hj, rfl⟩ := cellsOf_get s j v hv
      have h0 := hx j hj
      rw [World.cell?_alloc_lt _ _ _ (World.block_lt_of_cell? _ _ h0)]
      exact h0)
    (by rw [hlen, size_zeros]; omega)
    (fun v hv => by
      obtain ⟨j, hj⟩ := List.getElem?_of_mem hv
      obtain ⟨_, rfl⟩ := cellsOf_get s j v hj
      rfl)
  rw [this, hlen, setRow_alloc]
  simp

theorem holds_new (w : World) (s : ByteArray) : Holds (w.alloc (.cells (cellsOf s) 5)) (some ⟨w.heap.size, 0, none⟩) s := by
  unfold Holds
  refine ⟨(fun h => by cases h), ?_⟩
  intro x hx j hj
  obtain rfl := Option.some.inj hx
  rw [add_plain, World.cell?_alloc_mark]
  have hb := byte_at s j hj
  simp only [Nat.zero_add, cellsOf, List.getElem?_toArray, List.getElem?_map, hb, Option.map_some]

theorem Holds.drewN {w : World} {a : Option Addr} {s : ByteArray} (h : Holds w a s) (n : Nat) : Holds (w.drewN n) a s := h
end Go.Proofs.Qxb6618500a
