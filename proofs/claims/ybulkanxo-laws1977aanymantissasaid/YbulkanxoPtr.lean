/-
  pointers to words compared.
-/
import Derived.Test.YbulkanxoSet
import Derived.LaidEqlPtr
namespace Go.Proofs.Ybulkanxo
open Go.RowKit
set_option linter.unusedVariables false

theorem info51' : ∃ j, Yba.prog.info? 51 = some j ∧ j.size ≠ 0 := by
  obtain ⟨i, hi, _, h1, _⟩ := info_parts info51
  exact ⟨i, hi, by rw [h1]; decide⟩
theorem neq_words (w : World) (ga gb o p : Nat) (ca cb : List Nat) (hne : ga ≠ gb) (ha : w.heap[ga]? = some (row ca)) (hb : w.heap[gb]? = some (row cb)) :
    (binOp .neq 80 (.pointer (some ⟨ga, o, none⟩)) (.pointer (some ⟨gb, p, none⟩))).run Yba.prog w = .ok (.bool true) w := by
  obtain ⟨j, hj, hs⟩ := info51'
  have hne' : (⟨ga, o, none⟩ : Addr) ≠ ⟨gb, p, none⟩ := by intro e; exact hne (by simpa using congrArg Addr.block e)
  have h : ∀ d : Nat, (Op.equalIn (d + 1) 80 (.pointer (some ⟨ga, o, none⟩)) (.pointer (some ⟨gb, p, none⟩))).run Yba.prog w = .ok false w := fun d => by
    simp [Op.equalIn, run_underlying Yba.underlying80, sizeOf, typeInfo, hj, hs, run_sameAddr_other w hne' ha hb]
  simp only [binOp]
  simp [Op.equal, Op.maxDepth, h 9999]
theorem neq_same (w : World) (a : Addr) : (binOp .neq 80 (.pointer (some a)) (.pointer (some a))).run Yba.prog w = .ok (.bool false) w := by
  obtain ⟨j, hj, hs⟩ := info51'
  have h : ∀ d : Nat, (Op.equalIn (d + 1) 80 (.pointer (some a)) (.pointer (some a))).run Yba.prog w = .ok true w := fun d => by
    simp [Op.equalIn, run_underlying Yba.underlying80, sizeOf, typeInfo, hj, run_sameAddr_same]
  simp only [binOp]
  simp [Op.equal, Op.maxDepth, h 9999]
end Go.Proofs.Ybulkanxo
