/-
  LawS1978AFollowed: what its second loop keeps.
-/
import Derived.Test.YbulkanycFollow2
namespace Go.Proofs.Ybulkanyc
open Go.RowKit
set_option linter.unusedVariables false

def seenRow (n : Nat) (seen : Nat → Bool) : Array Value := ((List.range n).map fun j => Value.bool (seen j)).toArray
theorem seenRow_false (n : Nat) : seenRow n (fun _ => false) = Array.replicate n (.bool false) := by
  apply Array.ext'
  simp only [seenRow, Array.toList_replicate]
  apply List.ext_getElem?
  intro j
  by_cases h : j < n <;> simp [h]
theorem seenRow_get (n : Nat) (seen : Nat → Bool) (j : Nat) (h : j < n) : (seenRow n seen)[j]? = some (.bool (seen j)) := by
  simp [seenRow, h]
def upd (seen : Nat → Bool) (i : Nat) : Nat → Bool := fun j => if j = i then true else seen j
theorem seenRow_set (n : Nat) (seen : Nat → Bool) (i : Nat) : (seenRow n seen).setIfInBounds i (.bool true) = seenRow n (upd seen i) := by
  apply Array.ext'
  apply List.ext_getElem?
  intro j
  simp only [seenRow, Array.toList_setIfInBounds, List.getElem?_set, List.getElem?_map, upd]
  by_cases hij : i = j
  · subst hij
    by_cases hn : i < n <;> simp [hn]
  · have : ¬ j = i := fun e => hij e.symm
    by_cases hn : j < n <;> simp [hij, this, hn]

/-- A file's block: with no holder, or with the one. -/
def FileAt (rb N b j : Nat) (off : Int) (s : Bool) (wr : World) : Prop :=
  if s then ∃ (gb cap : Nat) (xs : Array Value), N + 6 ≤ gb ∧ wr.heap[b + j]? = some (.cells (hld rb (j + 1) (fl off) (.slice (some ⟨gb, 0, none⟩) 1 cap)) 59) ∧ wr.heap[gb]? = some (.cells (#[.pointer (some ⟨N + 1, 0, none⟩)] ++ xs) 41)
  else wr.heap[b + j]? = some (.cells (hld rb (j + 1) (fl off) (.slice none 0 0)) 59)

structure Kept2 (n : Nat) (offs : Nat → Int) (told : Bool) (w : World) (N : Nat) (wr : World) (seen : Nat → Bool) (m c t : Nat) (fur : Int) (grew any : Bool) : Prop where
  eqN : N = w.heap.size + 2 + n
  files : wr.heap[w.heap.size + 1]? = some (.cells (filesRow n (w.heap.size + 2) n) 24)
  source : wr.heap[N + 1]? = some (.cells (src told grew m c t (fl fur) (N + 2) N w.heap.size) 52)
  mem : wr.heap[N + 2]? = some (.cells #[.slice none 0 0] 78)
  seenB : wr.heap[N + 4]? = some (.cells (seenRow n seen) 4)
  last : wr.heap[N + 5]? = some (.cells #[.int .u64 (t : Int), .int .i64 0, .pointer none] 37)
  each : ∀ j, j < n → FileAt w.heap.size N (w.heap.size + 2) j (offs j) (seen j) wr
  mlt : m < 2 ^ 64
  mask : ∀ j, j < n → m.testBit (j + 1) = seen j
  cnt : (0 < c ↔ any = true)
  furlo : -32768 ≤ fur
  furhi : fur ≤ 32767
  below : Below w.heap.size w wr

theorem FileAt.fr {rb N b j : Nat} {off : Int} {s : Bool} {wr wr' : World} {S : Nat → Prop} (h : FileAt rb N b j off s wr) (f : Fr S wr wr') (h1 : ¬ S (b + j)) (h2 : ∀ g, N + 6 ≤ g → ¬ S g) : FileAt rb N b j off s wr' := by
  unfold FileAt at *
  cases s
  · simp only [Bool.false_eq_true, if_false] at *
    exact (f.block _ (lt_of_block h) h1).trans h
  · simp only [if_true] at *
    obtain ⟨gb, cap, xs, k1, k2, k3⟩ := h
    exact ⟨gb, cap, xs, k1, (f.block _ (lt_of_block k2) h1).trans k2, (f.block _ (lt_of_block k3) (h2 _ k1)).trans k3⟩

theorem Kept2.fr {n : Nat} {offs : Nat → Int} {told : Bool} {w : World} {N : Nat} {wr wr' : World} {seen : Nat → Bool} {m c t : Nat} {fur : Int} {grew any : Bool} (h : Kept2 n offs told w N wr seen m c t fur grew any) (f : Fr (fun _ => False) wr wr') :
    Kept2 n offs told w N wr' seen m c t fur grew any where
  eqN := h.eqN
  files := (f.block _ (lt_of_block h.files) (fun f => f)).trans h.files
  source := (f.block _ (lt_of_block h.source) (fun f => f)).trans h.source
  mem := (f.block _ (lt_of_block h.mem) (fun f => f)).trans h.mem
  seenB := (f.block _ (lt_of_block h.seenB) (fun f => f)).trans h.seenB
  last := (f.block _ (lt_of_block h.last) (fun f => f)).trans h.last
  each := fun j hj => (h.each j hj).fr f (fun f => f) (fun _ _ f => f)
  mlt := h.mlt
  mask := h.mask
  cnt := h.cnt
  furlo := h.furlo
  furhi := h.furhi
  below := h.below.trans (f.below (by have := lt_of_block h.files; omega) (fun _ f => f.elim))
end Go.Proofs.Ybulkanyc
