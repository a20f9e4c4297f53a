/-
  LawS1978AFollowed: schedule.holds in a round of its second loop.
-/
import Derived.Test.YbulkanycFollow5
namespace Go.Proofs.Ybulkanyc
open Go.RowKit
set_option linter.unusedVariables false

theorem lt_of_cell {w : World} {a : Addr} {v : Value} (h : w.cell? a = some v) : a.block < w.heap.size := by
  apply Classical.byContradiction
  intro hn
  have e : w.heap[a.block]? = none := by simp; omega
  simp [World.cell?, e] at h

theorem Kept2.holdsSeen {n : Nat} {offs : Nat → Int} {told : Bool} {w : World} {N : Nat} {wr : World} {seen : Nat → Bool} {m c t : Nat} {fur : Int} {grew any : Bool} (h : Kept2 n offs told w N wr seen m c t fur grew any)
    (i d S : Nat) (hi : i < n) (hn : n ≤ 8) (hs : seen i = true) :
    Calls Yba.prog 8 #[.pointer (some ⟨S, 0, none⟩), .pointer (some ⟨N + 1, 0, none⟩), .pointer (some ⟨w.heap.size + 2 + i, 0, none⟩), .agg #[.int .u64 (d : Int), .int .i64 0, .pointer none]] wr fun e w' => .returned (.tuple #[]) = e ∧ Fr (fun _ => False) wr w' := by
  have k1 := h.each i hi
  unfold FileAt at k1
  rw [hs] at k1
  simp only [if_true] at k1
  obtain ⟨gb, cap, xs, q1, q2, q3⟩ := k1
  refine holds_kept S (N + 1) (w.heap.size + 2 + i) (i + 1) (d : Int) m c t (fl fur) (N + 2) N w.heap.size told grew _ wr h.source q2 rfl (by omega) ?_
  rw [bit_test m (i + 1) h.mlt (by omega), h.mask i hi, hs]

/-- What a new name leaves. -/
def NewPost (offs : Nat → Int) (told : Bool) (w : World) (N : Nat) (wr : World) (m c : Nat) (fur : Int) (i d : Nat) (w' : World) : Prop :=
      ∃ (gb cap : Nat) (xs : Array Value), w'.heap[N + 1]? = some (.cells (src told told (bits .or .u64 (m : Int) (IntKind.u64.wrap (2 ^ (i + 1)))) ((c : Int) + 1) (d : Int) (fl (if fur < offs i then offs i else fur)) (N + 2) N w.heap.size) 52) ∧
        w'.heap[w.heap.size + 2 + i]? = some (.cells ((hld w.heap.size (i + 1) (fl (offs i)) (.slice none 0 0)).setIfInBounds 20 (.slice (some ⟨gb, 0, none⟩) 1 cap)) 59) ∧ wr.heap.size ≤ gb ∧ w'.heap[gb]? = some (.cells (#[.pointer (some ⟨N + 1, 0, none⟩)] ++ xs) 41) ∧ Fr (fun k => k = N + 1 ∨ k = w.heap.size + 2 + i) wr w'

theorem Kept2.holdsNew {n : Nat} {offs : Nat → Int} {told : Bool} {w : World} {N : Nat} {wr : World} {seen : Nat → Bool} {m c t : Nat} {fur : Int} {grew any : Bool} (h : Kept2 n offs told w N wr seen m c t fur grew any)
    (i d S : Nat) (hi : i < n) (hn : n ≤ 8) (ho1 : -32768 ≤ offs i) (ho2 : offs i ≤ 32767) (hc : c ≤ 1024) (hs : seen i = false) :
    Calls Yba.prog 8 #[.pointer (some ⟨S, 0, none⟩), .pointer (some ⟨N + 1, 0, none⟩), .pointer (some ⟨w.heap.size + 2 + i, 0, none⟩), .agg #[.int .u64 (d : Int), .int .i64 0, .pointer none]] wr fun e w' => .returned (.tuple #[]) = e ∧
      NewPost offs told w N wr m c fur i d w' := by
  have k1 := h.each i hi
  unfold FileAt at k1
  rw [hs] at k1
  simp only [Bool.false_eq_true, if_false] at k1
  have eN := h.eqN
  have f1 := h.furlo
  have f2 := h.furhi
  refine holds_new S (N + 1) (w.heap.size + 2 + i) (N + 2) (i + 1) (d : Int) m c t (fl fur) (fl (offs i)) (fl (if fur < offs i then offs i else fur)) N w.heap.size told grew _ _ 78 wr h.source k1 h.mem (by omega) (by omega) rfl rfl rfl rfl (by omega) ?_ (by omega) (by omega) ?_
  · rw [bit_test m (i + 1) h.mlt (by omega), h.mask i hi, hs]
  · intro wx
    exact fl_max Yba.prog fur (offs i) 38 (by omega) (by omega) wx

/-- A file's row of cells, seen or not: its offset. -/
theorem Kept2.offset {n : Nat} {offs : Nat → Int} {told : Bool} {w : World} {N : Nat} {wr : World} {seen : Nat → Bool} {m c t : Nat} {fur : Int} {grew any : Bool} (h : Kept2 n offs told w N wr seen m c t fur grew any)
    (i : Nat) (hi : i < n) : ∃ hs, wr.heap[w.heap.size + 2 + i]? = some (.cells (hld w.heap.size (i + 1) (fl (offs i)) hs) 59) := by
  have k1 := h.each i hi
  unfold FileAt at k1
  cases hs : seen i
  · rw [hs] at k1
    simp only [Bool.false_eq_true, if_false] at k1
    exact ⟨_, k1⟩
  · rw [hs] at k1
    simp only [if_true] at k1
    obtain ⟨gb, cap, xs, q1, q2, q3⟩ := k1
    exact ⟨_, q2⟩
theorem Kept2.fileCell {n : Nat} {offs : Nat → Int} {told : Bool} {w : World} {N : Nat} {wr : World} {seen : Nat → Bool} {m c t : Nat} {fur : Int} {grew any : Bool} (h : Kept2 n offs told w N wr seen m c t fur grew any)
    (i : Nat) (hi : i < n) : wr.cell? ⟨w.heap.size + 1, i, none⟩ = some (.pointer (some ⟨w.heap.size + 2 + i, 0, none⟩)) := by
  rw [cell_of_row _ _ _ _ _ _ h.files, filesRow_get _ _ _ _ hi, if_pos hi]
theorem Kept2.seenCell {n : Nat} {offs : Nat → Int} {told : Bool} {w : World} {N : Nat} {wr : World} {seen : Nat → Bool} {m c t : Nat} {fur : Int} {grew any : Bool} (h : Kept2 n offs told w N wr seen m c t fur grew any)
    (i : Nat) (hi : i < n) : wr.cell? ⟨N + 4, i, none⟩ = some (.bool (seen i)) := by
  rw [cell_of_row _ _ _ _ _ _ h.seenB, seenRow_get _ _ _ hi]
/-- The cells that the region of the call reads. -/
def SCells (w w1 : World) (i d : Nat) (W : World) : Prop := W.cell? ⟨w.heap.size + 1, i, none⟩ = some (.pointer (some ⟨w.heap.size + 2 + i, 0, none⟩)) ∧ W.cell? ⟨w1.heap.size, 0, none⟩ = some (.int .u64 (d : Int)) ∧ W.cell? ⟨w1.heap.size, 1, none⟩ = some (.int .i64 0) ∧ W.cell? ⟨w1.heap.size, 2, none⟩ = some (.pointer none)

theorem Kept2.cells1 {n : Nat} {offs : Nat → Int} {told : Bool} {w : World} {N : Nat} {w1 : World} {seen : Nat → Bool} {m c t : Nat} {fur : Int} {grew any : Bool} (h : Kept2 n offs told w N w1 seen m c t fur grew any)
    (i d : Nat) (hi : i < n) : SCells w w1 i d (w1.alloc (.cells #[.int .u64 (d : Int), .int .i64 0, .pointer none] 37)) :=
  ⟨(h.fr ((Fr.refl _ w1).alloc _)).fileCell i hi, cell_of_row _ _ _ _ _ _ (heap_new w1 _), cell_of_row _ _ _ _ _ _ (heap_new w1 _), cell_of_row _ _ _ _ _ _ (heap_new w1 _)⟩
theorem SCells.fr {w w1 : World} {i d : Nat} {a b : World} {S : Nat → Prop} (h : SCells w w1 i d a) (f : Fr S a b) (h1 : ¬ S (w.heap.size + 1)) (h2 : ¬ S w1.heap.size) : SCells w w1 i d b := by
  obtain ⟨k1, k2, k3, k4⟩ := h
  have e1 : ∀ (o : Nat), w.heap.size + 1 < a.heap.size → b.cell? ⟨w.heap.size + 1, o, none⟩ = a.cell? ⟨w.heap.size + 1, o, none⟩ := fun o hl => by simp only [World.cell?]; rw [f.block _ hl h1]
  have e2 : ∀ (o : Nat), w1.heap.size < a.heap.size → b.cell? ⟨w1.heap.size, o, none⟩ = a.cell? ⟨w1.heap.size, o, none⟩ := fun o hl => by simp only [World.cell?]; rw [f.block _ hl h2]
  exact ⟨(e1 _ (lt_of_cell k1)).trans k1, (e2 _ (lt_of_cell k2)).trans k2, (e2 _ (lt_of_cell k2)).trans k3, (e2 _ (lt_of_cell k2)).trans k4⟩
end Go.Proofs.Ybulkanyc
