/-
  (*checker).hold and (Rule).Level, by their contracts.
-/
import Derived.Test.Qxb6618561aFmtRows
import Derived.WalkKit
import Derived.WalkSpells
import Derived.ProofKit
import Derived.Handy
import Derived.Deep.RegionLaw
import Derived.Deep.AppendLies
namespace Go.Proofs.Qxb6618561aFmt
open Go.ChangeShapes Go.WideShapes Go.ChangeAt Go.RowKit

/-- "unreadable" -/
def unread : ByteArray := ⟨#[117, 110, 114, 101, 97, 100, 97, 98, 108, 101]⟩

theorem level_must (w : World) : Calls Tryf.prog 16 #[.string unread] w fun e w' => e = .returned (.int .i64 2) ∧ w' = w := by
  unfold unread
  go_enter Tryf.func16, Tryf.ntmps16
  go_wp2
  go_ret
  exact ⟨rfl, rfl⟩

theorem Tryf.info37 : (Tryf.prog.info? 37).map (fun i => (i.zero, i.size, i.bytes)) = some (some (.agg #[.int .i64 0, .int .i64 0, .string ByteArray.empty, .string ByteArray.empty]), 4, 48) := by kernel_rfl

/-- A checker at block B, of whose findings the cells are xs. -/
def Inv (w : World) (B n : Nat) (xs : List Value) : Prop :=
  ∃ v, w.cell? ⟨B, 1, none⟩ = some v ∧ w.frozen? ⟨B, 1, none⟩ = false ∧ w.ownsRow (B + 1) 37 4 v n xs

/-- One finding's cells. -/
def find4 (line : Int) (text : ByteArray) : List Value := [.int .i64 line, .int .i64 2, .string unread, .string text]

theorem one4 (line : Int) (text : ByteArray) : ∀ u ∈ find4 line text, u.oneCell' = true := by
  intro u hu
  simp only [find4, List.mem_cons, List.not_mem_nil, or_false] at hu
  rcases hu with rfl | rfl | rfl | rfl <;> rfl
theorem new4 (w : World) (line : Int) (text : ByteArray) (t : TypeId) : ∀ j u, (find4 line text)[j]? = some u → (w.alloc (.cells #[.int .i64 line, .int .i64 2, .string unread, .string text] t)).cell? ((⟨w.heap.size, 0, none⟩ : Addr).add j) = some u := by
  intro j u hu
  rw [add_plain, World.cell?_alloc_new, Nat.zero_add]
  simpa [find4] using hu

theorem hold_end {w w1 : World} {o : Obj} {B n : Nat} {v V : Value} {ys : List Value} (hB : B < w.heap.size) (hg : (w.alloc o).drew.grownBy w1 v.ownBlock) (hv : ∀ k, v.ownBlock = some k → B + 1 ≤ k)
    (h1 : w1.ownsRow (B + 1) 37 4 V (n + 1) ys) (hc : w1.cell? ⟨B, 1, none⟩ = some v) (hf : w1.frozen? ⟨B, 1, none⟩ = false) : Inv (w1.setCell ⟨B, 1, none⟩ V) B (n + 1) ys ∧ Below B w (w1.setCell ⟨B, 1, none⟩ V) := by
  refine ⟨⟨V, World.cell?_setCell_same _ _ _ hc, by rw [World.frozen?_setCell]; exact hf, ownsRow_setCell_below h1 (Nat.lt_succ_self B) V⟩, ?_⟩
  have b1 : Below B w (w.alloc o).drew := ((Below.refl _ _).alloc (Nat.le_of_lt hB) o).drew
  have b2 : Below B w w1 := b1.grown hg (by simp; omega) (fun k hk => by have := hv k hk; omega)
  exact b2.setCell (Nat.le_refl B) V

set_option maxHeartbeats 1000000 in
theorem hold_any (B n : Nat) (xs : List Value) (line : Int) (text : ByteArray) (w : World) (hI : Inv w B n xs) (hn : n ≤ 1048576) :
    Calls Tryf.prog 14 #[.pointer (some ⟨B, 0, none⟩), .int .i64 line, .string unread, .string text] w fun e w' => e = .returned (.tuple #[]) ∧ Inv w' B (n + 1) (xs ++ find4 line text) ∧ Below B w w' := by
  obtain ⟨v, hc, hf, hown⟩ := hI
  obtain ⟨i0, hi, hz0, hz1, hz2⟩ := info_parts Tryf.info37
  have HO := (show Hid (w.ownsRow (B + 1) 37 4 v n xs) from hown)
  have hB : B < w.heap.size := World.block_lt_of_cell? _ _ hc
  clear hown
  go_enter Tryf.func14, Tryf.ntmps14
  have hne : some B ≠ v.ownBlock := by
    intro e
    have := HO.out.lt B e.symm
    omega
  have HC := (show Hid (∀ o, (w.alloc o).cell? ⟨B, 1, none⟩ = some v) from fun o => by rw [World.cell?_alloc_lt _ _ _ hB]; exact hc)
  have HF := (show Hid (∀ o, (w.alloc o).frozen? ⟨B, 1, none⟩ = false) from fun o => by rw [World.frozen?_alloc_old _ _ _ (Nat.ne_of_lt hB)]; exact hf)
  have HV := (show Hid (∀ k, v.ownBlock = some k → B + 1 ≤ k) from fun k hk => (HO.out.lt k hk).1)
  have HN := (show Hid (some B ≠ v.ownBlock) from hne)
  clear hne
  go_region_law
    (first
      | (go_simp; go_at_call 16; refine (level_must _).mono ?_; rintro e w' ⟨rfl, rfl⟩; simp only [])
      | (refine step_append_lies _ rfl (.tmp 12) (.tmp 19) 31 rfl (B + 1) 37 i0 (.agg #[.int .i64 0, .int .i64 0, .string ByteArray.empty, .string ByteArray.empty]) 4 48 Tryf.underlying31 hi hz0 hz1 hz2 rfl (by decide) v n xs rfl (by exact HO.out.drew.alloc _) ⟨w.heap.size, 0, none⟩ 1 1 (find4 line text) rfl rfl (by exact new4 _ _ _ _) (by exact one4 _ _) (by omega) (by unfold maxLen; omega) (by omega) (by simp; omega) _ rfl ?_; intro g cap w1 hown1 hgrow hat hlt; have hcB : w1.cell? ⟨B, 1, none⟩ = some v := (hgrow.cell_far ⟨B, 1, none⟩ (by simp; omega) HN.out).trans (by exact HC.out _); have hfB : w1.frozen? ⟨B, 1, none⟩ = false := (hgrow.frozen_far ⟨B, 1, none⟩ (by simp; omega) HN.out).trans (by exact HF.out _); have HE := (show Hid (∀ V, V = Value.slice (some ⟨g, 0, none⟩) (n + 1) cap → Inv (w1.setCell ⟨B, 1, none⟩ V) B (n + 1) (xs ++ find4 line text) ∧ Below B w (w1.setCell ⟨B, 1, none⟩ V)) from fun V hV => hold_end hB (by exact hgrow) HV.out (by rw [hV]; exact hown1) hcB hfB); clear hgrow hown1 hat hlt))
  all_goals
    go_end0
    exact ⟨rfl, HE.out _ rfl⟩
end Go.Proofs.Qxb6618561aFmt
