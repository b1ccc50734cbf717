/-
  (*checker).add at both formats, (*checker).unreadable.
-/
import Derived.Test.Qxb6618561aFmtHold
import Derived.Stop.CallBack
import GoSem.ClaimData
namespace Go.Proofs.Qxb6618561aFmt
open Go.ChangeShapes Go.WideShapes Go.ChangeAt Go.RowKit
open Go.Extern.Stop Go.Stop Go.Extern

theorem call15 (args : Array Value) (w : World) : (callFunc 15 args).run Tryf.prog w = (FmtCalls.sprintf #[9, 47] #[9] args).run Tryf.prog w :=
  run_callFunc_next Tryf.func15 (by kernel_rfl) (by kernel_rfl) (by kernel_rfl) args w
theorem guarded (name : String) (w : World) : (FmtStop.guard name).run Tryf.prog w = .ok () w := by kernel_rfl
theorem nextTurns : Extern.next FmtCalls.turnsRow = some (FmtCalls.begun #[] #[]) := by kernel_rfl
theorem fmtS : FmtStop.printed? ⟨#[37, 115]⟩ 1 = some [(0, 115, false)] := by kernel_rfl
theorem fmtSQ : FmtStop.printed? ⟨#[37, 115, 32, 37, 113]⟩ 2 = some [(0, 115, false), (1, 113, false)] := by kernel_rfl
theorem act115 (name : String) (x : Value) (w : World) : (FmtCalls.act name false 115 false (.iface 9 x)).run Tryf.prog w = .ok (.closed false) w := by kernel_rfl
theorem act113 (name : String) (x : Value) (w : World) : (FmtCalls.act name false 113 false (.iface 9 x)).run Tryf.prog w = .ok (.closed false) w := by kernel_rfl
def shape9 : List UInt8 := [12, 6, 0, 0, 0, 0, 0, 0, 0, 115, 116, 114, 105, 110, 103]
theorem op115 (name : String) (x : ByteArray) (w : World) : (FmtStop.operand name false 115 false (.iface 9 (.string x))).run Tryf.prog w = .ok (shape9, FmtStop.pack x.data.toList) w := by kernel_rfl
theorem op113 (name : String) (x : ByteArray) (w : World) : (FmtStop.operand name false 113 false (.iface 9 (.string x))).run Tryf.prog w = .ok (shape9, FmtStop.pack x.data.toList) w := by kernel_rfl

set_option maxHeartbeats 400000 in
theorem add_s (F : Interp) (B n b : Nat) (xs : List Value) (line : Int) (what : ByteArray) (w : World) (hF : F.answers w.tape) (hI : Inv w B n xs) (hn : n ≤ 1048576) (hc : w.cell? ⟨b, 0, none⟩ = some (.iface 9 (.string what))) :
    Calls Tryf.prog 13 #[.pointer (some ⟨B, 0, none⟩), .int .i64 line, .string unread, .string ⟨#[37, 115]⟩, .slice (some ⟨b, 0, none⟩) 1 1] w fun e w' => e = .returned (.tuple #[]) ∧ ∃ text, Inv w' B (n + 1) (xs ++ find4 line text) ∧ Below B w w' := by
  have hF' := answers_open hF
  have h15 := call15
  have hg := guarded
  have hp := fmtS
  have ha := act115
  have ho := op115
  have HI := (show Hid (Inv w B n xs) from hI)
  clear hI hF
  go_enter Tryf.func13, Tryf.ntmps13
  go_wp2_with (go_at_call 15; go_in)
  apply rows_value nextTurns
  case hr =>
    go_simp
    exact ⟨rfl, rfl⟩
  case h =>
    clear hF' h15 hg hp ha ho
    generalize FmtStop.textOf _ = T
    go_wp2_with fail
    refine (hold_any B n xs line T _ (by exact HI.out) hn).mono ?_
    rintro e w2 ⟨rfl, hI2, hb2⟩
    have HI2 := (show Hid (Inv w2 B (n + 1) (xs ++ find4 line T)) from hI2)
    have HB2 := (show Hid (Below B w w2) from ((Below.refl B w).drew).trans hb2)
    clear hI2 hb2
    go_wp2
    go_end0
    exact ⟨rfl, T, HI2.out, HB2.out⟩

set_option maxHeartbeats 400000 in
theorem add_sq (F : Interp) (B n b : Nat) (xs : List Value) (line : Int) (what text : ByteArray) (w : World) (hF : F.answers w.tape) (hI : Inv w B n xs) (hn : n ≤ 1048576) (hc : w.cell? ⟨b, 0, none⟩ = some (.iface 9 (.string what))) (hc1 : w.cell? ⟨b, 1, none⟩ = some (.iface 9 (.string text))) :
    Calls Tryf.prog 13 #[.pointer (some ⟨B, 0, none⟩), .int .i64 line, .string unread, .string ⟨#[37, 115, 32, 37, 113]⟩, .slice (some ⟨b, 0, none⟩) 2 2] w fun e w' => e = .returned (.tuple #[]) ∧ ∃ text, Inv w' B (n + 1) (xs ++ find4 line text) ∧ Below B w w' := by
  have hF' := answers_open hF
  have h15 := call15
  have hg := guarded
  have hp := fmtSQ
  have ha := act115
  have ho := op115
  have ha1 := act113
  have ho1 := op113
  have HI := (show Hid (Inv w B n xs) from hI)
  clear hI hF
  go_enter Tryf.func13, Tryf.ntmps13
  go_wp2_with (go_at_call 15; go_in)
  apply rows_value nextTurns
  case hr =>
    go_simp
    exact ⟨rfl, rfl⟩
  case h =>
    clear hF' h15 hg hp ha ho ha1 ho1
    generalize FmtStop.textOf _ = T
    go_wp2_with fail
    refine (hold_any B n xs line T _ (by exact HI.out) hn).mono ?_
    rintro e w2 ⟨rfl, hI2, hb2⟩
    have HI2 := (show Hid (Inv w2 B (n + 1) (xs ++ find4 line T)) from hI2)
    have HB2 := (show Hid (Below B w w2) from ((Below.refl B w).drew).trans hb2)
    clear hI2 hb2
    go_wp2
    go_end0
    exact ⟨rfl, T, HI2.out, HB2.out⟩
end Go.Proofs.Qxb6618561aFmt
