/-
  time.Time: Add, Equal at small times.
-/
import Derived.Test.YbulkanycRows
import Derived.Test.YbulkanycMem
namespace Go.Proofs.Ybulkanyc
open Go.RowKit
set_option linter.unusedVariables false

theorem time_nsec (b : Nat) (n : Int) (w : World) (hc : w.cell? ⟨b, 0, none⟩ = some (.int .u64 n)) (hb : b < w.heap.size) (z : Int) (hz : bits .and .u64 n 1073741823 = z) (h0 : 0 ≤ z) (h1 : z < 1073741824) :
    Calls Yba.prog 16 #[.pointer (some ⟨b, 0, none⟩)] w fun e w' => .returned (.int .i32 z) = e ∧ w = w' := by
  go_enter Yba.func16, Yba.ntmps16
  go_wp2
  go_ret
  exact ⟨by go_num, rfl⟩

set_option maxHeartbeats 1000000 in
theorem time_addSec (b : Nat) (n : Int) (w : World) (hc : w.cell? ⟨b, 0, none⟩ = some (.int .u64 n)) (hc1 : w.cell? ⟨b, 1, none⟩ = some (.int .i64 0)) (hf : w.frozen? ⟨b, 1, none⟩ = false) (hb : b < w.heap.size) (hz : bits .and .u64 n 9223372036854775808 = 0) :
    Calls Yba.prog 17 #[.pointer (some ⟨b, 0, none⟩), .int .i64 0] w fun e w' => .returned (.tuple #[]) = e ∧ w.setCell ⟨b, 1, none⟩ (.int .i64 0) = w' := by
  go_enter Yba.func17, Yba.ntmps17
  go_wp2_with fail
  go_end0
  exact ⟨rfl, rfl⟩

theorem time_sec (b : Nat) (n x : Int) (w : World) (hc : w.cell? ⟨b, 0, none⟩ = some (.int .u64 n)) (hc1 : w.cell? ⟨b, 1, none⟩ = some (.int .i64 x)) (hb : b < w.heap.size) (hz : bits .and .u64 n 9223372036854775808 = 0) :
    Calls Yba.prog 20 #[.pointer (some ⟨b, 0, none⟩)] w fun e w' => .returned (.int .i64 x) = e ∧ w = w' := by
  go_enter Yba.func20, Yba.ntmps20
  go_wp2
  go_ret
  exact ⟨rfl, rfl⟩

theorem and_high (k : Nat) (h : k < 2 ^ 63) : k &&& 2 ^ 63 = 0 := by
  apply Nat.eq_of_testBit_eq
  intro i
  rw [Nat.testBit_and, Nat.testBit_two_pow, Nat.zero_testBit]
  by_cases hi : 63 = i
  · subst hi; simp [Nat.testBit_lt_two_pow h]
  · simp [hi]
theorem heap_new (w : World) (o : Obj) : (w.alloc o).heap[w.heap.size]? = some o := (MapKept.heap_alloc w o).1
theorem size_new (w : World) (o : Obj) : (w.alloc o).heap.size = w.heap.size + 1 := by simp

set_option maxHeartbeats 1000000 in
theorem time_add (d : Int) (w : World) (h1 : 1 ≤ d) (h2 : d ≤ 1024) (hq : d / 1000000000 = 0) (hm : d % 1000000000 = d) (hn : bits .andNot .u64 0 1073741823 = 0) (ha : bits .and .u64 0 1073741823 = 0) (hor : bits .or .u64 0 d = d) (hand : bits .and .u64 d 9223372036854775808 = 0) :
    Calls Yba.prog 7 #[.agg #[.int .u64 0, .int .i64 0, .pointer none], .int .i64 d] w fun e w' => .returned (.agg #[.int .u64 d, .int .i64 0, .pointer none]) = e ∧ Fr (fun _ => False) w w' := by
  go_enter Yba.func7, Yba.ntmps7
  go_wp2_with fail
  refine (time_nsec w.heap.size 0 _ (cell_of_row _ _ _ _ _ _ (row_alloc (heap_new _ _))) (by simp; omega) 0 ha (by omega) (by omega)).mono ?_
  rintro e w1 ⟨rfl, rfl⟩
  go_wp2_with fail
  refine (time_addSec w.heap.size d _ (cell_of_row _ _ _ _ _ _ (row_alloc (heap_new _ _))) (cell_of_row _ _ _ _ _ _ (row_alloc (heap_new _ _))) (frozen_of_row _ _ _ _ _ (row_alloc (heap_new _ _))) (by simp; omega) hand).mono ?_
  rintro e w2 ⟨rfl, rfl⟩
  go_wp2_with fail
  refine bodyPost_ret (v := .agg #[.int .u64 d, .int .i64 0, .pointer none]) (by simp [results, Yba.results7, go_sem]) rfl ?_
  exact ⟨rfl, ((Fr.refl _ w).alloc _).alloc _⟩
/-- (time.Time).Add at the zero time, by some nanoseconds. -/
theorem time_add_any (k : Nat) (w : World) (h1 : 1 ≤ k) (h2 : k ≤ 1024) :
    Calls Yba.prog 7 #[.agg #[.int .u64 0, .int .i64 0, .pointer none], .int .i64 (k : Int)] w fun e w' => .returned (.agg #[.int .u64 (k : Int), .int .i64 0, .pointer none]) = e ∧ Fr (fun _ => False) w w' := by
  have a1 := u64_or_nat 0 k (by omega) (by omega)
  have a2 := u64_and_nat k 9223372036854775808 (by omega) (by omega)
  have e2 : k &&& 9223372036854775808 = 0 := by
    have : k < 2 ^ 63 := by omega
    exact and_high k this
  rw [Nat.zero_or] at a1
  rw [e2] at a2
  exact time_add k w (by omega) (by omega) (by omega) (by omega) (by decide) (by decide) a1 a2

set_option maxHeartbeats 1000000 in
theorem time_equal (d : Int) (w : World) (h0 : bits .and .u64 d d = d) (hand : bits .and .u64 d 9223372036854775808 = 0) (z : Int) (hz : bits .and .u64 d 1073741823 = z) (h1 : 0 ≤ z) (h2 : z < 1073741824) :
    Calls Yba.prog 9 #[.agg #[.int .u64 d, .int .i64 0, .pointer none], .agg #[.int .u64 d, .int .i64 0, .pointer none]] w fun e w' => .returned (.bool true) = e ∧ Fr (fun _ => False) w w' := by
  go_enter Yba.func9, Yba.ntmps9
  go_wp2_with fail
  refine (time_sec w.heap.size d 0 _ (cell_of_row _ _ _ _ _ _ (row_alloc (heap_new _ _))) (cell_of_row _ _ _ _ _ _ (row_alloc (heap_new _ _))) (by simp; omega) hand).mono ?_
  rintro e w1 ⟨rfl, rfl⟩
  go_wp2_with fail
  have hn := heap_new (w.alloc (Obj.cells #[Value.int IntKind.u64 d, Value.int IntKind.i64 0, Value.pointer none] 37)) (Obj.cells #[Value.int IntKind.u64 d, Value.int IntKind.i64 0, Value.pointer none] 37)
  rw [size_new] at hn
  refine (time_sec (w.heap.size + 1) d 0 _ (cell_of_row _ _ _ _ _ _ hn) (cell_of_row _ _ _ _ _ _ hn) (by simp) hand).mono ?_
  rintro e w1 ⟨rfl, rfl⟩
  go_wp2_with fail
  refine (time_nsec w.heap.size d _ (cell_of_row _ _ _ _ _ _ (row_alloc (heap_new _ _))) (by simp; omega) z hz h1 h2).mono ?_
  rintro e w1 ⟨rfl, rfl⟩
  go_wp2_with fail
  refine (time_nsec (w.heap.size + 1) d _ (cell_of_row _ _ _ _ _ _ hn) (by simp) z hz h1 h2).mono ?_
  rintro e w1 ⟨rfl, rfl⟩
  go_wp2_with fail
  go_ret
  exact ⟨rfl, ((Fr.refl _ w).alloc _).alloc _⟩
theorem time_equal_any (k : Nat) (w : World) (h2 : k ≤ 1024) :
    Calls Yba.prog 9 #[.agg #[.int .u64 (k : Int), .int .i64 0, .pointer none], .agg #[.int .u64 (k : Int), .int .i64 0, .pointer none]] w fun e w' => .returned (.bool true) = e ∧ Fr (fun _ => False) w w' := by
  have a1 := u64_and_nat k k (by omega) (by omega)
  have a2 := u64_and_nat k 9223372036854775808 (by omega) (by omega)
  have a3 := u64_and_nat k 1073741823 (by omega) (by omega)
  have e2 : k &&& 9223372036854775808 = 0 := by
    have : k < 2 ^ 63 := by omega
    exact and_high k this
  have e3 : k &&& 1073741823 = k := by
    rw [show (1073741823 : Nat) = 2 ^ 30 - 1 from rfl, Nat.and_two_pow_sub_one_eq_mod]
    omega
  rw [Nat.and_self] at a1
  rw [e2] at a2
  rw [e3] at a3
  exact time_equal k w a1 a2 k a3 (by omega) (by omega)
end Go.Proofs.Ybulkanyc
