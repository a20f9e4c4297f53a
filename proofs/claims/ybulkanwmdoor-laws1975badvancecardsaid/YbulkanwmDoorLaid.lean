/-
  WHAT THE ROWS' CONDITION 'laid' GIVES THE WALKS: the table of math/bits in its variable. And small facts for both rows.
-/
import Derived.Test.YbulkanwmDoorPlain
import Derived.ProofKit
import Derived.LaidMore
import Derived.OpenShut
import Derived.Stop.Joined
import Derived.Lib.LaidTab
namespace Go.Proofs.YbulkanwmDoor
open Go.ChangeShapes Go.WideShapes Go.ChangeAt Go.RowKit

theorem own : ownKnob Ybad.prog.godebug = none := by kernel_rfl
theorem gTab : Ybad.prog.globalNamed "math/bits.deBruijn64tab" = some 0 := by kernel_rfl
theorem tTab : (Ybad.prog.globals[0]?).map (·.type) = some 38 := by kernel_rfl
theorem cells5 : Ybad.prog.cellsOf 5 = 1 := by kernel_rfl
theorem cells38 : Ybad.prog.cellsOf 38 = 64 := by kernel_rfl

/-- The list that both rows bear. -/
def laid1 : List (String × DataW Unit) := [("math/bits.deBruijn64tab", Rows.laid_math_bits_deBruijn64tab)]
def zs64 : List Int := [0, 1, 56, 2, 57, 49, 28, 3, 61, 58, 42, 50, 38, 29, 17, 4, 62, 47, 59, 36, 45, 43, 51, 22, 53, 39, 33, 30, 24, 18, 12, 5,
  63, 55, 48, 27, 60, 41, 37, 16, 46, 35, 44, 21, 52, 32, 23, 11, 54, 26, 40, 15, 34, 20, 31, 10, 25, 14, 19, 9, 13, 8, 7, 6]
theorem laid_eq : (Rows.laid_math_bits_deBruijn64tab : DataW Unit) = Lib.tabData .u8 zs64 := rfl
theorem zs_at : ∀ j, j < 64 → zs64.getD j 0 = ((Lib.deBruijn64tab.getD j 0 : Nat) : Int) := by decide +kernel

/-- The door's own heap meets the condition. -/
theorem door_met (os : Os) (args : Array Value) : laidMetH Ybad.prog laid1 ((World.doorLaid Ybad.prog 400 os).forCall (fun _ _ => 0) ⟨#[], args, []⟩).memory :=
  laidMetH_of_parts3 (fuel := 8) (laidMet_of_run' 8 (by kernel_rfl) (by kernel_rfl)) (by kernel_rfl) (by kernel_rfl)

theorem tab_of_laid {W : World} (h : laidMetH Ybad.prog laid1 W) : TabAt W := by
  rw [MakeChecks.laidMetH_plain _ _ _ (by kernel_rfl)] at h
  unfold laid1 at h
  rw [laid_eq] at h
  have hT := Lib.tabIs_of_head gTab tTab Ybad.underlying38 Ybad.underlying5 cells5 cells38 h
  intro j hj
  have := hT.cell gTab j hj
  rw [zs_at j hj] at this
  exact this
theorem TabAt.size {W : World} (h : TabAt W) : 0 < W.heap.size := by
  have := World.block_lt_of_cell? W ⟨0, 0, none⟩ (h 0 (by decide))
  exact this

/-- What 'open_int' hands over of a uint64, as the walks want it. -/
theorem nat_of_wf {x : Int} (h : (Lit.int .u64 x).wf = true) : ∃ n : Nat, x = (n : Int) ∧ n < 18446744073709551616 := by
  simp [Lit.wf, IntKind.min, IntKind.max, IntKind.signed, IntKind.bits] at h
  exact ⟨x.toNat, by omega, by omega⟩
end Go.Proofs.YbulkanwmDoor
