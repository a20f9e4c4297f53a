/-
  LawS1978AFollowed: what its loops keep.
-/
import Derived.Test.YbulkanycSource
namespace Go.Proofs.Ybulkanyc
open Go.RowKit
set_option linter.unusedVariables false

/-- The cells of a held file. -/
def hld (rb p f : Nat) (hs : Value) : Array Value := #[.string { data := #[] }, .pointer none, .float .f64 0, .int .i64 0, .string { data := #[] }, .string { data := #[] }, .chan none, .pointer (some ⟨rb, 0, none⟩), .int .i64 (p : Int), .float .f64 f, .bool false, .bool false,
  .int .i64 0, .int .i64 0, .int .u64 0, .int .i64 0, .pointer none, .int .u64 0, .int .i64 0, .pointer none, hs, .slice none 0 0, .slice none 0 0]

/-- The row of files, the first i laid. -/
def filesRow (n b i : Nat) : Array Value := ((List.range n).map fun j => if j < i then Value.pointer (some ⟨b + j, 0, none⟩) else .pointer none).toArray
theorem filesRow_zero (n b : Nat) : filesRow n b 0 = Array.replicate n (.pointer none) := by
  apply Array.ext'
  simp [filesRow]
  apply List.ext_getElem?
  intro j
  simp [List.getElem?_replicate]
  by_cases h : j < n <;> simp [h]
theorem filesRow_set (n b i : Nat) (h : i < n) : (filesRow n b i).setIfInBounds i (.pointer (some ⟨b + i, 0, none⟩)) = filesRow n b (i + 1) := by
  apply Array.ext'
  apply List.ext_getElem?
  intro j
  simp only [filesRow, Array.toList_setIfInBounds, List.getElem?_set, List.getElem?_map]
  by_cases hij : i = j
  · subst hij; simp [h]
  · by_cases hj : j < n
    · have e : j < i + 1 ↔ j < i := by omega
      simp [hij, hj, e]
    · simp [hij, hj]
theorem filesRow_get (n b i j : Nat) (h : j < n) : (filesRow n b i)[j]? = some (if j < i then Value.pointer (some ⟨b + j, 0, none⟩) else .pointer none) := by
  simp [filesRow, h]
end Go.Proofs.Ybulkanyc
