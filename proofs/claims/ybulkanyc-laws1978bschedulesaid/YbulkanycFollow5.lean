/-
  LawS1978AFollowed: the start of its second loop.
-/
import Derived.Test.YbulkanycFollow4
namespace Go.Proofs.Ybulkanyc
open Go.RowKit
set_option linter.unusedVariables false

theorem Kept2.start {n : Nat} {offs : Nat → Int} {w wr : World} (told : Bool) (a4 : Int) (sc : Array Value) (h : Laid1 n offs w wr n) (h1 : -32768 ≤ a4) (h2 : a4 ≤ 32767) :
    Kept2 n offs told w wr.heap.size ((((((wr.alloc (.map #[] 0)).alloc (.cells (src told false ((0 : Nat) : Int) ((0 : Nat) : Int) ((0 : Nat) : Int) (fl a4) (wr.heap.size + 2) wr.heap.size w.heap.size) 52)).alloc (.cells #[.slice none 0 0] 78)).alloc (.cells sc 69)).alloc (.cells (Array.replicate n (.bool false)) 4)).alloc (.cells #[.int .u64 ((0 : Nat) : Int), .int .i64 0, .pointer none] 37))
      (fun _ => false) 0 0 0 a4 false false := by
  obtain ⟨o1, e1⟩ : ∃ o : Obj, o = .map #[] 0 := ⟨_, rfl⟩
  obtain ⟨o2, e2⟩ : ∃ o : Obj, o = .cells (src told false ((0 : Nat) : Int) ((0 : Nat) : Int) ((0 : Nat) : Int) (fl a4) (wr.heap.size + 2) wr.heap.size w.heap.size) 52 := ⟨_, rfl⟩
  obtain ⟨o3, e3⟩ : ∃ o : Obj, o = .cells #[.slice none 0 0] 78 := ⟨_, rfl⟩
  obtain ⟨o4, e4⟩ : ∃ o : Obj, o = .cells sc 69 := ⟨_, rfl⟩
  obtain ⟨o5, e5⟩ : ∃ o : Obj, o = .cells (Array.replicate n (.bool false)) 4 := ⟨_, rfl⟩
  obtain ⟨o6, e6⟩ : ∃ o : Obj, o = .cells #[.int .u64 ((0 : Nat) : Int), .int .i64 0, .pointer none] 37 := ⟨_, rfl⟩
  rw [← e1, ← e2, ← e3, ← e4, ← e5, ← e6]
  have up : ∀ {k : Nat} {o : Obj}, wr.heap[k]? = some o → ((((((wr.alloc o1).alloc o2).alloc o3).alloc o4).alloc o5).alloc o6).heap[k]? = some o := fun hk => row_alloc (row_alloc (row_alloc (row_alloc (row_alloc (row_alloc hk)))))
  have s1 := size_new wr o1
  have s2 := size_new (wr.alloc o1) o2
  have s3 := size_new ((wr.alloc o1).alloc o2) o3
  have s4 := size_new (((wr.alloc o1).alloc o2).alloc o3) o4
  have s5 := size_new ((((wr.alloc o1).alloc o2).alloc o3).alloc o4) o5
  have n2 := heap_new (wr.alloc o1) o2
  have n3 := heap_new ((wr.alloc o1).alloc o2) o3
  have n5 := heap_new ((((wr.alloc o1).alloc o2).alloc o3).alloc o4) o5
  have n6 := heap_new (((((wr.alloc o1).alloc o2).alloc o3).alloc o4).alloc o5) o6
  rw [s1] at n2 s2
  rw [s2] at n3 s3
  rw [s3] at s4
  rw [s4] at n5 s5
  rw [s5] at n6
  have b : Below w.heap.size w ((((((wr.alloc o1).alloc o2).alloc o3).alloc o4).alloc o5).alloc o6) := by
    have hsz := h.size
    exact (((((h.below.alloc (by omega) o1).alloc (by omega) o2).alloc (by omega) o3).alloc (by omega) o4).alloc (by omega) o5).alloc (by omega) o6
  refine ⟨h.size, up h.files, ?_, ?_, ?_, ?_, ?_, by decide, fun j _ => Nat.zero_testBit _, ⟨fun h => absurd h (by decide), fun h => by cases h⟩, h1, h2, b⟩
  · rw [← e2]; exact row_alloc (row_alloc (row_alloc (row_alloc n2)))
  · rw [← e3]; exact row_alloc (row_alloc (row_alloc n3))
  · rw [seenRow_false, ← e5]; exact row_alloc n5
  · rw [← e6]; exact n6
  · intro j hj
    unfold FileAt
    rw [if_neg (by decide)]
    exact up (h.each j hj)
end Go.Proofs.Ybulkanyc
