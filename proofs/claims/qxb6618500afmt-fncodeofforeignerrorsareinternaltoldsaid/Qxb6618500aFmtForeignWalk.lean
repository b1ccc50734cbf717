/-
  THE WALK of FnCodeOfForeignErrorsAreInternal: it comes to fmt.Sprintf("%T", err), for every F.
-/
import Derived.Test.Qxb6618500aFmtMadeWalk
import Derived.Stop.CallBack
import Derived.Stop.IfaceNil
import Derived.Stop.Asserts
import GoSem.ClaimData
namespace Go.Proofs.Qxb6618500aFmt
open Go.ChangeShapes Go.WideShapes Go.ChangeAt Go.RowKit
open Go.Extern.Stop Go.Stop Go.Extern

/-! ### The closed facts of fmt's stopped front in this dump -/
theorem call27 (args : Array Value) (w : World) : (callFunc 27 args).run Tryf.prog w = (FmtCalls.sprintf #[9, 88] #[9] args).run Tryf.prog w :=
  run_callFunc_next Tryf.func27 (by kernel_rfl) (by kernel_rfl) (by kernel_rfl) args w
theorem guarded (name : String) (w : World) : (FmtStop.guard name).run Tryf.prog w = .ok () w := by kernel_rfl
theorem nextTurns : Extern.next FmtCalls.turnsRow = some (FmtCalls.begun #[] #[]) := by kernel_rfl
theorem fmtT : FmtStop.printed? ⟨#[37, 84]⟩ 1 = some [(0, 84, false)] := by kernel_rfl
theorem act46 (name : String) (x : Value) (w : World) : (FmtCalls.act name false 84 false (.iface 46 x)).run Tryf.prog w = .ok (.closed false) w := by kernel_rfl
theorem act23 (name : String) (x : Value) (w : World) : (FmtCalls.act name false 84 false (.iface 23 x)).run Tryf.prog w = .ok (.closed false) w := by kernel_rfl
theorem op46 (name : String) (x : Value) (w : World) : (FmtStop.operand name false 84 false (.iface 46 x)).run Tryf.prog w = .ok (21 :: FmtStop.pack [42, 101, 114, 114, 111, 114, 115, 46, 101, 114, 114, 111, 114, 83, 116, 114, 105, 110, 103], []) w := by kernel_rfl
theorem op23 (name : String) (x : Value) (w : World) : (FmtStop.operand name false 84 false (.iface 23 x)).run Tryf.prog w = .ok (21 :: FmtStop.pack [42, 99, 101, 114, 97, 46, 69, 114, 114, 111, 114], []) w := by kernel_rfl

/-- "internal" -/
def internal : ByteArray := ⟨#[105, 110, 116, 101, 114, 110, 97, 108]⟩
def internalErr : ByteArray := ⟨#[105, 110, 116, 101, 114, 110, 97, 108, 32, 101, 114, 114, 111, 114]⟩
def causeKey : ByteArray := ⟨#[99, 97, 117, 115, 101]⟩

set_option maxHeartbeats 400000 in
theorem internal_error (F : Interp) (t : TypeId) (x : Value) (R : List UInt8) (w : World) (hF : F.answers w.tape) (hact : ∀ w, (FmtCalls.act "fmt.Sprintf" false 84 false (.iface t x)).run Tryf.prog w = .ok (.closed false) w)
    (hop : ∀ w, (FmtStop.operand "fmt.Sprintf" false 84 false (.iface t x)).run Tryf.prog w = .ok (R, []) w) :
    Calls Tryf.prog 20 #[.iface t x] w fun e w' => ∃ b, e = .returned (.pointer (some ⟨b, 0, none⟩)) ∧ w'.cell? ⟨b, 0, none⟩ = some (.string internal) ∧ Below w.heap.size w w' := by
  have h27 := call27
  have hg := guarded
  have hT := fmtT
  go_enter Tryf.func20, Tryf.ntmps20
  go_wp2_with fail
  refine (new_Error internal internalErr _).mono ?_
  rintro e w1 ⟨rfl, he1, hb1⟩
  have hF' := answers_open (show F.answers w1.tape by rw [hb1.tape]; exact hF)
  have H1 : Hid (Below w.heap.size w w1) := hb1
  clear hb1 hF
  have hz1 : w.heap.size < w1.heap.size := he1.lt
  have he2 : IsErr (w1.alloc (.cells #[.iface t x] 20)).drew w.heap.size internal internalErr := he1.later (((Below.refl _ _).alloc (Nat.le_refl _) _).drew)
  have H2 : Hid (Below w.heap.size w (w1.alloc (.cells #[.iface t x] 20)).drew) := (H1.out.alloc (by omega) _).drew
  go_wp2_with (go_at_call 27; go_in)
  apply rows_value nextTurns
  case hr =>
    go_simp
    exact ⟨rfl, rfl⟩
  case h =>
    clear hact hop h27 hg hT hF' H1 he1
    generalize FmtStop.textOf _ = T
    go_wp2_with fail
    refine (meta_of w.heap.size internal internalErr causeKey T _ he2).mono ?_
    rintro e w3 ⟨rfl, hc3, hc4, hf4, hb3⟩
    have H3 : Hid (Below w.heap.size w w3) := H2.out.trans (hb3.mono (by simp; omega))
    clear hb3 he2 H2
    have hz : (w1.alloc (.cells #[.iface t x] 20)).drew.heap.size = w1.heap.size + 1 := by simp
    rw [hz] at hc3 hc4 hf4
    rw [hz]
    clear hz
    go_wp2
    go_ret
    refine ⟨_, rfl, ?_, H3.out.setCell (by simp; omega) _⟩
    rw [World.cell?_setCell_other _ _ _ _ (by simp)]
    exact hc3

/-! ### errors.AsType at an error that is no *Error -/
theorem as_not_ptr (x : Value) (w : World) : (Instr.typeAssert (.iface 46 x) 34 23 true).run Tryf.prog w = .ok (.tuple #[.pointer none, .bool false]) w := by kernel_rfl
theorem as_not_as (x : Value) (w : World) : (Instr.typeAssert (.iface 46 x) 34 62 true).run Tryf.prog w = .ok (.tuple #[.nilIface, .bool false]) w := run_typeAssert_lacksB Tryf.underlying62 (by kernel_rfl) (by kernel_rfl) x 34 w
theorem as_not_unwrap (x : Value) (w : World) : (Instr.typeAssert (.iface 46 x) 34 65 true).run Tryf.prog w = .ok (.tuple #[.nilIface, .bool false]) w := run_typeAssert_lacksB Tryf.underlying65 (by kernel_rfl) (by kernel_rfl) x 34 w
theorem as_not_unwraps (x : Value) (w : World) : (Instr.typeAssert (.iface 46 x) 34 67 true).run Tryf.prog w = .ok (.tuple #[.nilIface, .bool false]) w := run_typeAssert_lacksB Tryf.underlying67 (by kernel_rfl) (by kernel_rfl) x 34 w

set_option maxHeartbeats 400000 in
theorem as_type_no (x q : Value) (w : World) :
    Calls Tryf.prog 30 #[.iface 46 x, q] w fun e w' => e = .returned (.tuple #[.pointer none, .bool false]) ∧ w' = w := by
  have h1 := as_not_ptr x
  have h2 := as_not_as x
  have h3 := as_not_unwrap x
  have h4 := as_not_unwraps x
  go_enter Tryf.func30, Tryf.ntmps30
  go_wp2
  go_rounds 1
  go_ret2
  exact ⟨rfl, rfl⟩

theorem AsType_no (x : Value) (w : World) :
    Calls Tryf.prog 26 #[.iface 46 x] w fun e w' => e = .returned (.tuple #[.pointer none, .bool false]) ∧ w' = w.alloc (.cells #[.pointer none] 58) := by
  go_enter Tryf.func26, Tryf.ntmps26
  go_wp2_with fail
  refine (as_type_no x _ _).mono ?_
  rintro e w' ⟨rfl, rfl⟩
  go_wp2
  go_ret2
  exact ⟨rfl, rfl⟩

theorem find_no (x : Value) (w : World) :
    Calls Tryf.prog 19 #[.iface 46 x] w fun e w' => e = .returned (.pointer none) ∧ w' = w.alloc (.cells #[.pointer none] 58) := by
  go_enter Tryf.func19, Tryf.ntmps19
  go_wp2_with fail
  refine (AsType_no x _).mono ?_
  rintro e w' ⟨rfl, rfl⟩
  go_wp2
  go_ret
  exact ⟨rfl, rfl⟩

/-- convert and CodeOf where find gives nil. -/
theorem convert_nil (F : Interp) (t : TypeId) (x : Value) (R : List UInt8) (w : World) (hF : F.answers w.tape) (hfind : ∀ w, Calls Tryf.prog 19 #[.iface t x] w fun e w' => e = .returned (.pointer none) ∧ w' = w.alloc (.cells #[.pointer none] 58))
    (hact : ∀ w, (FmtCalls.act "fmt.Sprintf" false 84 false (.iface t x)).run Tryf.prog w = .ok (.closed false) w) (hop : ∀ w, (FmtStop.operand "fmt.Sprintf" false 84 false (.iface t x)).run Tryf.prog w = .ok (R, []) w) :
    Calls Tryf.prog 16 #[.iface t x] w fun e w' => ∃ b, e = .returned (.pointer (some ⟨b, 0, none⟩)) ∧ w'.cell? ⟨b, 0, none⟩ = some (.string internal) ∧ Below w.heap.size w w' := by
  have Hf := (show Hid (∀ w, Calls Tryf.prog 19 #[.iface t x] w fun e w' => e = .returned (.pointer none) ∧ w' = w.alloc (.cells #[.pointer none] 58)) from hfind)
  clear hfind
  go_enter Tryf.func16, Tryf.ntmps16
  go_wp2_with fail
  refine (Hf.out _).mono ?_
  rintro e w' ⟨rfl, rfl⟩
  go_wp2_with fail
  refine (internal_error F t x R _ (by exact hF) hact hop).mono ?_
  rintro e w2 ⟨b, rfl, hc, hb⟩
  have H2 : Hid (Below w.heap.size w w2) := ((Below.refl _ _).alloc (Nat.le_refl _) _).trans (hb.mono (by simp))
  clear hb
  go_wp2
  go_ret
  exact ⟨b, rfl, hc, H2.out⟩

theorem CodeOf_nil (F : Interp) (t : TypeId) (x : Value) (R : List UInt8) (w : World) (hF : F.answers w.tape) (hfind : ∀ w, Calls Tryf.prog 19 #[.iface t x] w fun e w' => e = .returned (.pointer none) ∧ w' = w.alloc (.cells #[.pointer none] 58))
    (hact : ∀ w, (FmtCalls.act "fmt.Sprintf" false 84 false (.iface t x)).run Tryf.prog w = .ok (.closed false) w) (hop : ∀ w, (FmtStop.operand "fmt.Sprintf" false 84 false (.iface t x)).run Tryf.prog w = .ok (R, []) w) :
    Calls Tryf.prog 13 #[.iface t x] w fun e w' => e = .returned (.string internal) ∧ Below w.heap.size w w' := by
  have Hf := (show Hid (∀ w, Calls Tryf.prog 19 #[.iface t x] w fun e w' => e = .returned (.pointer none) ∧ w' = w.alloc (.cells #[.pointer none] 58)) from hfind)
  clear hfind
  go_enter Tryf.func13, Tryf.ntmps13
  go_wp2_with fail
  refine (convert_nil F t x R _ hF Hf.out hact hop).mono ?_
  rintro e w2 ⟨b, rfl, hc, hb⟩
  have H2 : Hid (Below w.heap.size w w2) := hb
  clear hb
  go_wp2
  go_ret
  exact ⟨rfl, H2.out⟩

/-- ZZCodeOfForeign(msg). -/
theorem foreign (F : Interp) (m : ByteArray) (w : World) (hF : F.answers w.tape) :
    Calls Tryf.prog 10 #[.string m] w fun e w' => e = .returned (.string internal) ∧ Below w.heap.size w w' := by
  go_enter Tryf.func10, Tryf.ntmps10
  go_wp2_with (go_at_call 15; go_in)
  refine (CodeOf_nil F 46 _ _ _ (by exact hF) (find_no _) (act46 _ _) (op46 _ _)).mono ?_
  rintro e w2 ⟨rfl, hb⟩
  have H2 : Hid (Below w.heap.size w w2) := ((Below.refl _ _).alloc (Nat.le_refl _) _).trans (hb.mono (by simp))
  clear hb
  go_wp2
  go_ret
  exact ⟨rfl, H2.out⟩

/-- ZZCodeOfNilError(). -/
theorem nil_error (F : Interp) (w : World) (hF : F.answers w.tape) :
    Calls Tryf.prog 11 #[] w fun e w' => e = .returned (.string internal) ∧ Below w.heap.size w w' := by
  go_enter Tryf.func11, Tryf.ntmps11
  go_wp2_with fail
  refine (CodeOf_nil F 23 (.pointer none) _ _ (by exact hF) (find_ptr none) (act23 _ _) (op23 _ _)).mono ?_
  rintro e w2 ⟨rfl, hb⟩
  have H2 : Hid (Below w.heap.size w w2) := hb
  clear hb
  go_wp2
  go_ret
  exact ⟨rfl, H2.out⟩

/-- ZZCodeOfNil(). -/
theorem code_nil (w : World) : Calls Tryf.prog 12 #[] w fun e w' => e = .returned (.string ByteArray.empty) ∧ w' = w := by
  go_enter Tryf.func12, Tryf.ntmps12
  go_wp2
  go_ret
  exact ⟨rfl, rfl⟩

set_option maxHeartbeats 400000 in
theorem foreign_main (F : Interp) (m : ByteArray) (w : World) (hF : F.answers w.tape) (h : m.size ≤ 1048576) :
    Calls Tryf.prog 4 #[.string m] w fun e w' => e = .returned (.bool true) ∧ Below w.heap.size w w' := by
  go_enter Tryf.func4, Tryf.ntmps4
  go_wp2_with (go_at_call 9; go_in)
  refine (foreign F m _ hF).mono ?_
  rintro e w1 ⟨rfl, hb1⟩
  have H1 : Hid (Below w.heap.size w w1) := hb1
  have hz1 : w.heap.size ≤ w1.heap.size := hb1.size
  have HF1 : Hid (F.answers w1.tape) := (show F.answers w1.tape by rw [hb1.tape]; exact hF)
  clear hb1 hF
  go_wp2_with fail
  refine (new_Error internal m _).mono ?_
  rintro e w2 ⟨rfl, he2, hb2⟩
  have H2 : Hid (Below w.heap.size w w2) := H1.out.trans (hb2.mono hz1)
  have hz2 : w.heap.size ≤ w2.heap.size := H2.out.size
  have HF2 : Hid (F.answers w2.tape) := (show F.answers w2.tape by rw [hb2.tape]; exact HF1.out)
  clear hb2 H1 HF1
  go_wp2_with fail
  refine (code_of w1.heap.size internal _ he2.c0).mono ?_
  rintro e w3 ⟨rfl, hb3⟩
  have H3 : Hid (Below w.heap.size w w3) := H2.out.trans (hb3.mono hz2)
  have hz3 : w.heap.size ≤ w3.heap.size := H3.out.size
  have HF3 : Hid (F.answers w3.tape) := (show F.answers w3.tape by rw [hb3.tape]; exact HF2.out)
  clear hb3 he2 H2 HF2
  go_wp2_with fail
  refine (nil_error F _ HF3.out).mono ?_
  rintro e w4 ⟨rfl, hb4⟩
  have H4 : Hid (Below w.heap.size w w4) := H3.out.trans (hb4.mono hz3)
  clear hb4 H3 HF3
  go_wp2_with fail
  refine (code_nil _).mono ?_
  rintro e w5 ⟨rfl, rfl⟩
  rw [show internal = ⟨#[105, 110, 116, 101, 114, 110, 97, 108]⟩ from rfl, show ByteArray.empty = ⟨#[]⟩ from rfl]
  go_wp2
  go_ret
  exact ⟨rfl, H4.out⟩

theorem foreign_walk (F : Interp) (m : ByteArray) (w : World) (hF : F.answers w.tape) (hm : m.size ≤ maxLen) :
    Calls Tryf.prog 4 #[.string m] w fun e w' => e = .returned (.bool true) ∧ Below w.heap.size w w' := by
  unfold maxLen at hm
  by_cases h : m.size ≤ 1048576
  · exact foreign_main F m w hF h
  · have hx : (1048576 : Int) < m.size := by omega
    clear hF h
    go_enter Tryf.func4, Tryf.ntmps4
    go_wp2
    go_ret
    exact ⟨rfl, Below.refl _ _⟩
end Go.Proofs.Qxb6618500aFmt
