/-
  LawS1978AFollowed: a round of its second loop that names a new file.
-/
import Derived.Test.YbulkanycFollow3
namespace Go.Proofs.Ybulkanyc
open Go.RowKit
set_option linter.unusedVariables false

theorem hld_set (rb p f : Nat) (a b : Value) : (hld rb p f a).setIfInBounds 20 b = hld rb p f b := rfl
theorem upd_same (seen : Nat → Bool) (i : Nat) : upd seen i i = true := by simp [upd]
theorem upd_other (seen : Nat → Bool) (i j : Nat) (h : j ≠ i) : upd seen i j = seen j := by simp [upd, h]

theorem Kept2.step {n : Nat} {offs : Nat → Int} {told : Bool} {w : World} {N : Nat} {wr : World} {seen : Nat → Bool} {m c t : Nat} {fur : Int} {grew any : Bool} (h : Kept2 n offs told w N wr seen m c t fur grew any)
    (i t' gb cap : Nat) (xs : Array Value) (w2 : World) (hi : i < n) (hn : n ≤ 8) (ho1 : -32768 ≤ offs i) (ho2 : offs i ≤ 32767)
    (hP : w2.heap[N + 1]? = some (.cells (src told told (bits .or .u64 (m : Int) (IntKind.u64.wrap (2 ^ (i + 1)))) ((c : Int) + 1) (t' : Int) (fl (if fur < offs i then offs i else fur)) (N + 2) N w.heap.size) 52))
    (hH : w2.heap[w.heap.size + 2 + i]? = some (.cells ((hld w.heap.size (i + 1) (fl (offs i)) (.slice none 0 0)).setIfInBounds 20 (.slice (some ⟨gb, 0, none⟩) 1 cap)) 59))
    (hgb : wr.heap.size ≤ gb) (hg : w2.heap[gb]? = some (.cells (#[.pointer (some ⟨N + 1, 0, none⟩)] ++ xs) 41)) (f : Fr (fun k => k = N + 1 ∨ k = w.heap.size + 2 + i) wr w2) :
    Kept2 n offs told w N ((((w2.setCell ⟨N + 4, i, none⟩ (.bool true)).setCell ⟨N + 5, 0, none⟩ (.int .u64 (t' : Int))).setCell ⟨N + 5, 1, none⟩ (.int .i64 0)).setCell ⟨N + 5, 2, none⟩ (.pointer none))
      (upd seen i) (m ||| 2 ^ (i + 1)) (c + 1) t' (if fur < offs i then offs i else fur) told true := by
  have eN := h.eqN
  have hsz := lt_of_block h.last
  -- the four stores, as a frame
  have g : Fr (fun k => k = N + 4 ∨ k = N + 5) w2 ((((w2.setCell ⟨N + 4, i, none⟩ (.bool true)).setCell ⟨N + 5, 0, none⟩ (.int .u64 (t' : Int))).setCell ⟨N + 5, 1, none⟩ (.int .i64 0)).setCell ⟨N + 5, 2, none⟩ (.pointer none)) :=
    ((((Fr.refl (fun k => k = N + 4 ∨ k = N + 5) w2).setCell (ad := ⟨N + 4, i, none⟩) (fun _ => .inl rfl) _).setCell (ad := ⟨N + 5, 0, none⟩) (fun _ => .inr rfl) _).setCell (ad := ⟨N + 5, 1, none⟩) (fun _ => .inr rfl) _).setCell (ad := ⟨N + 5, 2, none⟩) (fun _ => .inr rfl) _
  have ob : ∀ {k : Nat} {o : Obj}, wr.heap[k]? = some o → k ≠ N + 1 → k ≠ w.heap.size + 2 + i → w2.heap[k]? = some o := fun {k o} hk h1 h2 => (f.block k (lt_of_block hk) (fun e => e.elim h1 h2)).trans hk
  have og : ∀ {k : Nat} {o : Obj}, w2.heap[k]? = some o → k ≠ N + 4 → k ≠ N + 5 → ((((w2.setCell ⟨N + 4, i, none⟩ (.bool true)).setCell ⟨N + 5, 0, none⟩ (.int .u64 (t' : Int))).setCell ⟨N + 5, 1, none⟩ (.int .i64 0)).setCell ⟨N + 5, 2, none⟩ (.pointer none)).heap[k]? = some o :=
    fun {k o} hk h1 h2 => (g.block k (lt_of_block hk) (fun e => e.elim h1 h2)).trans hk
  obtain ⟨eb, lb⟩ := bit_set m (i + 1) h.mlt (by omega)
  refine ⟨eN, og (ob h.files (by omega) (by omega)) (by omega) (by omega), ?_, og (ob h.mem (by omega) (by omega)) (by omega) (by omega), ?_, ?_, ?_, lb, ?_, ⟨fun _ => rfl, fun _ => by omega⟩, by split <;> first | exact ho1 | exact h.furlo, by split <;> first | exact ho2 | exact h.furhi, ?_⟩
  · rw [eb] at hP
    exact og hP (by omega) (by omega)
  · have b0 := ob h.seenB (by omega) (by omega)
    have b1 := heap_setCell_same _ (N + 4) i _ _ (.bool true) b0
    rw [seenRow_set] at b1
    exact row_other (row_other (row_other b1 (by show N + 4 ≠ N + 5; omega)) (by show N + 4 ≠ N + 5; omega)) (by show N + 4 ≠ N + 5; omega)
  · have b0 := row_other (a := ⟨N + 4, i, none⟩) (v := .bool true) (ob h.last (by omega) (by omega)) (by show N + 5 ≠ N + 4; omega)
    have b1 := heap_setCell_same _ (N + 5) 0 _ _ (.int .u64 (t' : Int)) b0
    have b2 := heap_setCell_same _ (N + 5) 1 _ _ (.int .i64 0) b1
    exact heap_setCell_same _ (N + 5) 2 _ _ (.pointer none) b2
  · intro j hj
    by_cases hji : j = i
    · subst hji
      rw [upd_same]
      unfold FileAt
      rw [if_pos rfl]
      rw [hld_set] at hH
      exact ⟨gb, cap, xs, by omega, og hH (by omega) (by omega), og hg (by omega) (by omega)⟩
    · rw [upd_other _ _ _ hji]
      have k1 := (h.each j hj)
      -- the file's own block of holders is new, so it is neither
      unfold FileAt at *
      cases hs : seen j
      · rw [hs] at k1
        simp only [Bool.false_eq_true, if_false] at *
        exact og (ob k1 (by omega) (by omega)) (by omega) (by omega)
      · rw [hs] at k1
        simp only [if_true] at *
        obtain ⟨gb', cap', xs', q1, q2, q3⟩ := k1
        exact ⟨gb', cap', xs', q1, og (ob q2 (by omega) (by omega)) (by omega) (by omega), og (ob q3 (by omega) (by omega)) (by omega) (by omega)⟩
  · intro j hj
    rw [Nat.testBit_or, h.mask j hj, Nat.testBit_two_pow]
    by_cases hji : j = i
    · subst hji; simp [upd_same]
    · rw [upd_other _ _ _ hji]
      have h1 : ¬ (i + 1 = j + 1) := by omega
      rw [decide_eq_false h1, Bool.or_false]
  · have b1 : Below w.heap.size wr w2 := f.below (by omega) (fun k hk => by omega)
    have b2 := g.below (B := w.heap.size) (by have := f.size; omega) (fun k hk => by omega)
    exact (h.below.trans b1).trans b2
end Go.Proofs.Ybulkanyc
