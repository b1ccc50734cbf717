/-
  THE CALLEES' CONTRACTS of this seat: (Code).Error, errors.AsType, find, convert, CodeOf, ZZCodeOfError, withPair, (*Error).WithMeta.
-/
import Derived.Test.Qxb6618500aFmtRows
import Derived.WalkKit
import Derived.WalkSpells
import Derived.ProofKit
import Derived.Handy
namespace Go.Proofs.Qxb6618500aFmt
open Go.ChangeShapes Go.WideShapes Go.ChangeAt Go.RowKit

/-- The cells of a new *Error. -/
def errCells (c m : ByteArray) : Array Value := #[.string c, .string m, .slice none 0 0, .slice none 0 0, .nilIface]

theorem code_Error (c m : ByteArray) (w : World) :
    Calls Tryf.prog 6 #[.string c, .string m] w fun e w' => e = .returned (.pointer (some ⟨w.heap.size, 0, none⟩)) ∧ w' = w.alloc (.cells (errCells c m) 36) := by
  go_enter Tryf.func6, Tryf.ntmps6
  go_wp2
  go_ret
  exact ⟨rfl, rfl⟩

theorem pair_index (key : ByteArray) (w : World) :
    Calls Tryf.prog 17 #[.slice none 0 0, .string key] w fun e w' => e = .returned (.tuple #[.int .i64 0, .bool false]) ∧ w' = w := by
  go_enter Tryf.func17, Tryf.ntmps17
  go_wp2
  go_rounds 1
  go_ret2
  exact ⟨rfl, rfl⟩

theorem assert_ptr (p : Option Addr) (w : World) : (Instr.typeAssert (.iface 23 (.pointer p)) 34 23 true).run Tryf.prog w = .ok (.tuple #[.pointer p, .bool true]) w := by kernel_rfl

theorem as_type (p : Option Addr) (q : Value) (w : World) :
    Calls Tryf.prog 30 #[.iface 23 (.pointer p), q] w fun e w' => e = .returned (.tuple #[.pointer p, .bool true]) ∧ w' = w := by
  have ha := assert_ptr p
  go_enter Tryf.func30, Tryf.ntmps30
  go_wp2
  go_rounds 1
  go_ret2
  exact ⟨rfl, rfl⟩

theorem AsType_ptr (p : Option Addr) (w : World) :
    Calls Tryf.prog 26 #[.iface 23 (.pointer p)] w fun e w' => e = .returned (.tuple #[.pointer p, .bool true]) ∧ w' = w.alloc (.cells #[.pointer none] 58) := by
  go_enter Tryf.func26, Tryf.ntmps26
  go_wp2_with fail
  refine (as_type p _ _).mono ?_
  rintro e w' ⟨rfl, rfl⟩
  go_wp2
  go_ret2
  exact ⟨rfl, rfl⟩

theorem find_ptr (p : Option Addr) (w : World) :
    Calls Tryf.prog 19 #[.iface 23 (.pointer p)] w fun e w' => e = .returned (.pointer p) ∧ w' = w.alloc (.cells #[.pointer none] 58) := by
  go_enter Tryf.func19, Tryf.ntmps19
  go_wp2_with fail
  refine (AsType_ptr p _).mono ?_
  rintro e w' ⟨rfl, rfl⟩
  go_wp2
  go_ret
  exact ⟨rfl, rfl⟩

theorem convert_ptr (a : Addr) (w : World) :
    Calls Tryf.prog 16 #[.iface 23 (.pointer (some a))] w fun e w' => e = .returned (.pointer (some a)) ∧ w' = w.alloc (.cells #[.pointer none] 58) := by
  go_enter Tryf.func16, Tryf.ntmps16
  go_wp2_with fail
  refine (find_ptr (some a) _).mono ?_
  rintro e w' ⟨rfl, rfl⟩
  go_wp2_with fail
  go_ret
  exact ⟨rfl, rfl⟩

/-- CodeOf of an *Error that is not nil: the code that lies there. -/
theorem CodeOf_ptr (b : Nat) (c : ByteArray) (w : World) (hc : w.cell? ⟨b, 0, none⟩ = some (.string c)) :
    Calls Tryf.prog 13 #[.iface 23 (.pointer (some ⟨b, 0, none⟩))] w fun e w' => e = .returned (.string c) ∧ w' = w.alloc (.cells #[.pointer none] 58) := by
  have hlt := World.block_lt_of_cell? _ _ hc
  simp only at hlt
  go_enter Tryf.func13, Tryf.ntmps13
  go_wp2_with fail
  refine (convert_ptr ⟨b, 0, none⟩ _).mono ?_
  rintro e w' ⟨rfl, rfl⟩
  go_wp2_with fail
  go_ret
  exact ⟨rfl, rfl⟩

theorem ZZCodeOfError_ptr (b : Nat) (c : ByteArray) (w : World) (hc : w.cell? ⟨b, 0, none⟩ = some (.string c)) :
    Calls Tryf.prog 7 #[.pointer (some ⟨b, 0, none⟩)] w fun e w' => e = .returned (.string c) ∧ w' = w.alloc (.cells #[.pointer none] 58) := by
  go_enter Tryf.func7, Tryf.ntmps7
  go_wp2_with fail
  refine (CodeOf_ptr b c _ hc).mono ?_
  rintro e w' ⟨rfl, rfl⟩
  go_wp2_with fail
  go_ret
  exact ⟨rfl, rfl⟩

theorem made_pairs (w : World) : (Instr.makeSlice 31 (.int .i64 0) (.int .i64 1)).run Tryf.prog w = .ok (.slice (some ⟨w.heap.size, 0, none⟩) 0 1) (w.alloc (.cells #[.string ByteArray.empty, .string ByteArray.empty] 44)) := by kernel_rfl
theorem copy_pairs (ty : TypeId) (a : Addr) (w : World) : (Builtin.copy_ #[31, 31] ty #[.slice (some a) 0 1, .slice none 0 0]).run Tryf.prog w = .ok (goInt 0) w := run_copy_nil _ w 31 31 ty 44 a 0 1 Tryf.underlying31 (by kernel_rfl)

/-- The block that holds one pair. -/
def pairObj (key value : ByteArray) : Obj := .cells #[.string key, .string value] 44

theorem with_pair (key value : ByteArray) (w : World) :
    Calls Tryf.prog 14 #[.slice none 0 0, .string key, .string value] w fun e w' => e = .returned (.slice (some ⟨w.heap.size, 0, none⟩) 1 1) ∧ w' = (w.alloc (pairObj key value)).alloc (pairObj key value) := by
  have hmk := made_pairs
  have hcp := copy_pairs
  go_enter Tryf.func14, Tryf.ntmps14
  go_wp2_with fail
  refine (pair_index key _).mono ?_
  rintro e w' ⟨rfl, rfl⟩
  go_wp2_with (go_at_call 18; go_in)
  go_ret
  exact ⟨rfl, rfl⟩

/-- (*Error).WithMeta at an *Error without metadata: a new *Error of the same code. -/
theorem with_meta (b : Nat) (c m key value : ByteArray) (w : World) (h0 : w.cell? ⟨b, 0, none⟩ = some (.string c)) (h1 : w.cell? ⟨b, 1, none⟩ = some (.string m)) (h2 : w.cell? ⟨b, 2, none⟩ = some (.slice none 0 0)) (h3 : w.cell? ⟨b, 3, none⟩ = some (.slice none 0 0)) (h4 : w.cell? ⟨b, 4, none⟩ = some .nilIface) :
    Calls Tryf.prog 8 #[.pointer (some ⟨b, 0, none⟩), .string key, .string value] w fun e w' => e = .returned (.pointer (some ⟨w.heap.size, 0, none⟩)) ∧
      w' = ((w.alloc (.cells #[.string c, .string m, .slice (some ⟨w.heap.size + 1, 0, none⟩) 1 1, .slice none 0 0, .nilIface] 36)).alloc (pairObj key value)).alloc (pairObj key value) := by
  have hlt := World.block_lt_of_cell? _ _ h0
  simp only at hlt
  go_enter Tryf.func8, Tryf.ntmps8
  go_wp2_with fail
  refine (with_pair key value _).mono ?_
  rintro e w' ⟨rfl, rfl⟩
  go_wp2_with fail
  go_ret
  exact ⟨rfl, rfl⟩
end Go.Proofs.Qxb6618500aFmt
