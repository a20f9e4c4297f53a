/-
  LawS1978AFollowed: its third loop; the makes; the pointers compared.
-/
import Derived.Test.YbulkanycFollow6
import Derived.LaidEqlPtr
namespace Go.Proofs.Ybulkanyc
open Go.RowKit
set_option linter.unusedVariables false

theorem info52 : (Yba.prog.info? 52).map (fun i => i.size) = some 37 := by kernel_rfl
theorem info24 : (Yba.prog.info? 24).map (fun i => (i.zero, i.size, i.bytes)) = some (some (.pointer none), 1, 8) := by kernel_rfl
theorem info4 : (Yba.prog.info? 4).map (fun i => (i.zero, i.size, i.bytes)) = some (some (.bool false), 1, 1) := by kernel_rfl
theorem neq_same (w : World) (a : Addr) : (binOp .neq 41 (.pointer (some a)) (.pointer (some a))).run Yba.prog w = .ok (.bool false) w := by
  have h0 := info52
  cases hj : Yba.prog.info? 52 with
  | none => rw [hj] at h0; cases h0
  | some j =>
    have h : ∀ d : Nat, (Op.equalIn (d + 1) 41 (.pointer (some a)) (.pointer (some a))).run Yba.prog w = .ok true w := fun d => by
      simp [Op.equalIn, run_underlying Yba.underlying41, sizeOf, typeInfo, hj, run_sameAddr_same]
    simp only [binOp]
    simp [Op.equal, Op.maxDepth, h 9999]

theorem made_one (v : Value) (c : Nat) (hv : v.cells = #[v]) : madeCells v.cells (c * 1) = Array.replicate c v := by
  apply Array.ext'
  rw [hv]
  show (madeCells #[v] (c * 1)).toList = _
  rw [toList_madeCells_one, Nat.mul_one, Array.toList_replicate]
theorem make_files (k : Nat) (hk : k < 8) (w : World) : (Instr.makeSlice 25 (.int .i64 ((k : Int) + 1)) (.int .i64 ((k : Int) + 1))).run Yba.prog w = .ok (.slice (some ⟨w.heap.size, 0, none⟩) (k + 1) (k + 1)) (w.alloc (.cells (Array.replicate (k + 1) (.pointer none)) 24)) := by
  have h0 := info24
  cases hj : Yba.prog.info? 24 with
  | none => rw [hj] at h0; cases h0
  | some j =>
    rw [hj] at h0
    simp only [Option.map_some, Option.some.injEq, Prod.mk.injEq] at h0
    obtain ⟨z0, z1, z2⟩ := h0
    have := run_make (P := Yba.prog) (w := w) 25 24 j (.pointer none) Yba.underlying25 hj z0 .i64 .i64 ((k : Int) + 1) ((k : Int) + 1) (by omega) (by omega) (by rw [z2]; omega) (by omega)
    rw [this, z1]
    have e : ((k : Int) + 1).toNat = k + 1 := by omega
    rw [e, made_one _ _ rfl]
theorem make_seen (k : Nat) (hk : k < 8) (w : World) : (Instr.makeSlice 79 (.int .i64 ((k : Int) + 1)) (.int .i64 ((k : Int) + 1))).run Yba.prog w = .ok (.slice (some ⟨w.heap.size, 0, none⟩) (k + 1) (k + 1)) (w.alloc (.cells (Array.replicate (k + 1) (.bool false)) 4)) := by
  have h0 := info4
  cases hj : Yba.prog.info? 4 with
  | none => rw [hj] at h0; cases h0
  | some j =>
    rw [hj] at h0
    simp only [Option.map_some, Option.some.injEq, Prod.mk.injEq] at h0
    obtain ⟨z0, z1, z2⟩ := h0
    have := run_make (P := Yba.prog) (w := w) 79 4 j (.bool false) Yba.underlying79 hj z0 .i64 .i64 ((k : Int) + 1) ((k : Int) + 1) (by omega) (by omega) (by rw [z2]; omega) (by omega)
    rw [this, z1]
    have e : ((k : Int) + 1).toNat = k + 1 := by omega
    rw [e, made_one _ _ rfl]

theorem Kept2.heldOne {n : Nat} {offs : Nat → Int} {told : Bool} {w : World} {N : Nat} {wr : World} {seen : Nat → Bool} {m c t : Nat} {fur : Int} {grew any : Bool} (h : Kept2 n offs told w N wr seen m c t fur grew any)
    (i : Nat) (hi : i < n) (hs : seen i = true) : ∃ gb cap, wr.cell? ⟨w.heap.size + 2 + i, 20, none⟩ = some (.slice (some ⟨gb, 0, none⟩) 1 cap) ∧ wr.cell? ⟨gb, 0, none⟩ = some (.pointer (some ⟨N + 1, 0, none⟩)) ∧ w.heap.size + 2 + i < wr.heap.size := by
  have k1 := h.each i hi
  unfold FileAt at k1
  rw [hs] at k1
  simp only [if_true] at k1
  obtain ⟨gb, cap, xs, q1, q2, q3⟩ := k1
  refine ⟨gb, cap, cell_of_row _ _ _ _ _ _ q2, ?_, lt_of_block q2⟩
  rw [cell_of_row _ _ _ _ _ _ q3, Array.getElem?_append_left (Nat.zero_lt_one)]
  rfl
theorem Kept2.heldNone {n : Nat} {offs : Nat → Int} {told : Bool} {w : World} {N : Nat} {wr : World} {seen : Nat → Bool} {m c t : Nat} {fur : Int} {grew any : Bool} (h : Kept2 n offs told w N wr seen m c t fur grew any)
    (i : Nat) (hi : i < n) (hs : seen i = false) : wr.cell? ⟨w.heap.size + 2 + i, 20, none⟩ = some (.slice none 0 0) ∧ w.heap.size + 2 + i < wr.heap.size := by
  have k1 := h.each i hi
  unfold FileAt at k1
  rw [hs] at k1
  simp only [Bool.false_eq_true, if_false] at k1
  exact ⟨cell_of_row _ _ _ _ _ _ k1, lt_of_block k1⟩
end Go.Proofs.Ybulkanyc
