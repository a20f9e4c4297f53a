/-
  nat.set, setWord, setUint64.
-/
import Derived.Test.YbulkanxoCopy
namespace Go.Proofs.Ybulkanxo
open Go.RowKit
set_option linter.unusedVariables false

theorem heap_new (w : World) (o : Obj) : (w.alloc o).heap[w.heap.size]? = some o := (MapKept.heap_alloc w o).1
theorem size_new (w : World) (o : Obj) : (w.alloc o).heap.size = w.heap.size + 1 := by simp

set_option maxHeartbeats 400000 in
theorem set_zero (a : Option Addr) (c : Nat) (w : World) :
    Calls Yba.prog 46 #[.slice none 0 0, .slice a 0 c] w fun e w' => e = .returned (.slice none 0 0) ∧ w' = w := by
  have hc := fun wx => copy_nothing 35 35 3 Yba.underlying35 wx none a 0 0 0 c rfl
  go_enter Yba.func46, Yba.ntmps46
  go_wp2_with (go_at_call 43; refine (make_zero _).mono ?_; rintro e w' ⟨rfl, rfl⟩)
  go_ret
  exact ⟨rfl, rfl⟩

theorem src_cells {w : World} {g n : Nat} {cs : List Nat} (h : w.heap[g]? = some (row cs)) (hn : n ≤ cs.length) : ∀ j, j < (cs.take n).length → w.cell? ⟨g, 0 + j, none⟩ = some (.int .u64 ((cs.take n).getD j 0 : Nat)) := by
  intro j hj
  have hj' : j < n := by simp at hj; omega
  rw [Nat.zero_add, row_cell h (by omega)]
  simp [List.getD, hj']

set_option maxHeartbeats 400000 in
theorem set_one (gx : Nat) (cx : List Nat) (w : World) (hx : w.heap[gx]? = some (row cx)) (hn : 1 ≤ cx.length) :
    Calls Yba.prog 46 #[.slice none 0 0, .slice (some ⟨gx, 0, none⟩) 1 cx.length] w fun e w' =>
      e = .returned (.slice (some ⟨w.heap.size, 0, none⟩) 1 1) ∧ w'.heap[w.heap.size]? = some (row (cx.take 1)) ∧ Fr (fun _ => False) w w' ∧ w'.heap.size = w.heap.size + 1 := by
  have hx' : (w.alloc (row [0])).heap[gx]? = some (row cx) := row_alloc hx
  have hc := copy_words 35 35 3 Yba.underlying35 (w.alloc (row [0])) w.heap.size 0 1 1 gx 0 1 cx.length [0] (cx.take 1) (heap_new _ _) (by simp; omega) (src_cells hx' hn) (by simp; omega)
  have e1 : (cx.take 1).length = 1 := by simp; omega
  rw [e1] at hc
  go_enter Yba.func46, Yba.ntmps46
  go_wp2_with (go_at_call 43; refine (make_one _ _ _).mono ?_; rintro e w' ⟨rfl, rfl⟩)
  go_ret
  refine ⟨rfl, ?_, ?_, ?_⟩
  · rw [putW_at (heap_new _ _)]
  · exact ((Fr.refl _ w).alloc _).putW (fun h => absurd h (by omega)) _
  · rw [putW_size]; simp

set_option maxHeartbeats 400000 in
theorem set_more (gx n : Nat) (cx : List Nat) (w : World) (hx : w.heap[gx]? = some (row cx)) (hn : n ≤ cx.length) (h1 : 1 < n) (h2 : n ≤ 1000) :
    Calls Yba.prog 46 #[.slice none 0 0, .slice (some ⟨gx, 0, none⟩) n cx.length] w fun e w' =>
      e = .returned (.slice (some ⟨w.heap.size, 0, none⟩) n (n + 4)) ∧ w'.heap[w.heap.size]? = some (row (cx.take n ++ List.replicate 4 0)) ∧ Fr (fun _ => False) w w' ∧ w'.heap.size = w.heap.size + 1 := by
  have hx' : (w.alloc (row (List.replicate (n + 4) 0))).heap[gx]? = some (row cx) := row_alloc hx
  have hc := copy_words 35 35 3 Yba.underlying35 (w.alloc (row (List.replicate (n + 4) 0))) w.heap.size 0 n (n + 4) gx 0 n cx.length (List.replicate (n + 4) 0) (cx.take n) (heap_new _ _) (by simp; omega) (src_cells hx' hn) (by simp; omega)
  have e1 : (cx.take n).length = n := by simp; omega
  rw [e1] at hc
  go_enter Yba.func46, Yba.ntmps46
  go_wp2_with (go_at_call 43; refine (make_more _ _ _ _ (by omega) h1 h2 _).mono ?_; rintro e w' ⟨rfl, rfl⟩)
  go_ret
  refine ⟨rfl, ?_, ?_, ?_⟩
  · rw [putW_at (heap_new _ _)]
    simp
  · exact ((Fr.refl _ w).alloc _).putW (fun h => absurd h (by omega)) _
  · rw [putW_size]; simp

set_option maxHeartbeats 400000 in
theorem set_self (gx n : Nat) (cx : List Nat) (w : World) (hx : w.heap[gx]? = some (row cx)) (hn : n ≤ cx.length) :
    Calls Yba.prog 46 #[.slice (some ⟨gx, 0, none⟩) n cx.length, .slice (some ⟨gx, 0, none⟩) n cx.length] w fun e w' =>
      e = .returned (.slice (some ⟨gx, 0, none⟩) n cx.length) ∧ w' = w := by
  have hc := copy_words 35 35 3 Yba.underlying35 w gx 0 n cx.length gx 0 n cx.length cx (cx.take n) hx (by simp; omega) (src_cells hx hn) (by simp; omega)
  have e1 : (cx.take n).length = n := by simp; omega
  have e2 : cx.take 0 ++ cx.take n ++ cx.drop (0 + n) = cx := by simp
  rw [e1, e2, putW_self hx] at hc
  go_enter Yba.func46, Yba.ntmps46
  go_wp2_with (go_at_call 43; refine (make_reuse _ _ _ _ _ hn).mono ?_; rintro e w' ⟨rfl, rfl⟩)
  go_ret
  exact ⟨rfl, rfl⟩

/-! ### setWord, setUint64 from nil -/
set_option maxHeartbeats 400000 in
theorem setUint64_zero (w : World) :
    Calls Yba.prog 27 #[.slice none 0 0, .int .u64 0] w fun e w' => e = .returned (.slice none 0 0) ∧ w' = w := by
  go_enter Yba.func27, Yba.ntmps27
  go_wp2
  go_ret
  exact ⟨rfl, rfl⟩
set_option maxHeartbeats 400000 in
theorem setUint64_pos (x : Nat) (hx : 0 < x) (w : World) :
    Calls Yba.prog 27 #[.slice none 0 0, .int .u64 (x : Int)] w fun e w' => e = .returned (.slice (some ⟨w.heap.size, 0, none⟩) 1 1) ∧ w' = w.alloc (row [x]) := by
  have hx' : ((x : Int) == 0) = false := by simp; omega
  have e0 : ∀ wx : World, wx.alloc (row [0]) = wx.alloc (Obj.cells #[Value.int IntKind.u64 0] 51) := fun _ => rfl
  go_enter Yba.func27, Yba.ntmps27
  go_wp2_with (first | (go_at_call 43; refine (make_one _ _ _).mono ?_; rintro e w' ⟨rfl, rfl⟩; rw [e0]) | (go_at_call 42; go_in))
  go_ret
  exact ⟨rfl, rfl⟩
end Go.Proofs.Ybulkanxo
