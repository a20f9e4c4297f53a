/-
  LawS1978AFollowed: the steps of its first loop.
-/
import Derived.Test.YbulkanycFollow1
namespace Go.Proofs.Ybulkanyc
open Go.RowKit
set_option linter.unusedVariables false

/-- What the first loop keeps: i files laid. B0 = w.heap.size. -/
structure Laid1 (n : Nat) (offs : Nat → Int) (w wr : World) (i : Nat) : Prop where
  size : wr.heap.size = w.heap.size + 2 + i
  files : wr.heap[w.heap.size + 1]? = some (.cells (filesRow n (w.heap.size + 2) i) 24)
  each : ∀ j, j < i → wr.heap[w.heap.size + 2 + j]? = some (.cells (hld w.heap.size (j + 1) (fl (offs j)) (.slice none 0 0)) 59)
  below : Below w.heap.size w wr

theorem Laid1.step {n : Nat} {offs : Nat → Int} {w wr : World} {i : Nat} (h : Laid1 n offs w wr i) (hi : i < n) :
    Laid1 n offs w ((wr.setCell ⟨w.heap.size + 1, i, none⟩ (.pointer (some ⟨wr.heap.size, 0, none⟩))).alloc (.cells (hld w.heap.size (i + 1) (fl (offs i)) (.slice none 0 0)) 59)) (i + 1) := by
  have hss : (wr.setCell ⟨w.heap.size + 1, i, none⟩ (.pointer (some ⟨wr.heap.size, 0, none⟩))).heap.size = wr.heap.size := by simp [World.setCell]
  refine ⟨?_, ?_, ?_, ?_⟩
  · rw [size_new, hss, h.size]; omega
  · have e := filesRow_set n (w.heap.size + 2) i hi
    have b := heap_setCell_same wr (w.heap.size + 1) i _ _ (.pointer (some ⟨wr.heap.size, 0, none⟩)) h.files
    rw [h.size, e, ← h.size] at b
    exact row_alloc b
  · intro j hj
    by_cases hji : j = i
    · subst hji
      have := heap_new (wr.setCell ⟨w.heap.size + 1, j, none⟩ (.pointer (some ⟨wr.heap.size, 0, none⟩))) (.cells (hld w.heap.size (j + 1) (fl (offs j)) (.slice none 0 0)) 59)
      rw [hss] at this
      rw [← h.size]
      exact this
    · exact row_alloc (row_other (h.each j (by omega)) (by show _ ≠ w.heap.size + 1; omega))
  · have : Below w.heap.size w (wr.setCell ⟨w.heap.size + 1, i, none⟩ (.pointer (some ⟨wr.heap.size, 0, none⟩))) := h.below.setCell (by show w.heap.size ≤ w.heap.size + 1; omega) _
    exact this.alloc (by rw [hss, h.size]; omega) _
theorem Laid1.start (n : Nat) (offs : Nat → Int) (w : World) (rc : Array Value) (rt : TypeId) :
    Laid1 n offs w ((w.alloc (.cells rc rt)).alloc (.cells (Array.replicate n (.pointer none)) 24)) 0 := by
  refine ⟨by rw [size_new, size_new], ?_, fun j hj => by omega, ?_⟩
  · rw [filesRow_zero]
    have := heap_new (w.alloc (.cells rc rt)) (.cells (Array.replicate n (.pointer none)) 24)
    rw [size_new] at this
    exact this
  · exact ((Below.refl _ _).alloc (Nat.le_refl _) _).alloc (by rw [size_new]; omega) _
end Go.Proofs.Ybulkanyc
