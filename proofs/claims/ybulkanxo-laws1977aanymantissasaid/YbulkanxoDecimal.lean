/-
  accrua.decimalOf over a big.Int in memory.
-/
import Derived.Test.YbulkanxoIntCmp
namespace Go.Proofs.Ybulkanxo
open Go.RowKit
set_option linter.unusedVariables false

set_option maxHeartbeats 400000 in
theorem dec_nil (b : Nat) (k : Int) (w : World) (c0 : w.cell? ⟨b, 0, none⟩ = some (.bool false)) (c1 : w.cell? ⟨b, 1, none⟩ = some (.slice none 0 0)) (hb : b < w.heap.size) :
    Calls Yba.prog 9 #[.pointer (some ⟨b, 0, none⟩), .int .i64 k] w fun e w' => e = .returned (.agg #[.int .i64 0, .pointer none, .int .i64 k]) ∧ Fr (fun _ => False) w w' := by
  go_enter Yba.func9, Yba.ntmps9
  go_wp2
  refine bodyPost_ret (v := .agg #[.int .i64 0, .pointer none, .int .i64 k]) (by simp [results, Yba.results9, go_sem]) rfl ⟨rfl, ?_⟩
  exact (Fr.refl _ w).alloc _
set_option maxHeartbeats 400000 in
theorem dec_fits (b g c : Nat) (neg : Bool) (d u k : Int) (w : World) (c0 : w.cell? ⟨b, 0, none⟩ = some (.bool neg)) (c1 : w.cell? ⟨b, 1, none⟩ = some (.slice (some ⟨g, 0, none⟩) 1 c)) (cg : w.cell? ⟨g, 0, none⟩ = some (.int .u64 d)) (hb : b < w.heap.size) (hg : g < w.heap.size)
    (h0 : 0 ≤ d) (h1 : d ≤ 9223372036854775807) (hu : u = if neg then -d else d) :
    Calls Yba.prog 9 #[.pointer (some ⟨b, 0, none⟩), .int .i64 k] w fun e w' => e = .returned (.agg #[.int .i64 u, .pointer none, .int .i64 k]) ∧ Fr (fun _ => False) w w' := by
  cases neg
  · obtain rfl : u = d := hu
    go_enter Yba.func9, Yba.ntmps9
    go_wp2
    refine bodyPost_ret (v := .agg #[.int .i64 u, .pointer none, .int .i64 k]) (by simp [results, Yba.results9, go_sem]) rfl ⟨rfl, ?_⟩
    exact (Fr.refl _ w).alloc _
  · obtain rfl : u = -d := hu
    go_enter Yba.func9, Yba.ntmps9
    go_wp2
    refine bodyPost_ret (v := .agg #[.int .i64 (-d), .pointer none, .int .i64 k]) (by simp [results, Yba.results9, go_sem]) rfl ⟨rfl, ?_⟩
    exact (Fr.refl _ w).alloc _
set_option maxHeartbeats 400000 in
theorem dec_min (b g c : Nat) (d m k : Int) (w : World) (c0 : w.cell? ⟨b, 0, none⟩ = some (.bool true)) (c1 : w.cell? ⟨b, 1, none⟩ = some (.slice (some ⟨g, 0, none⟩) 1 c)) (cg : w.cell? ⟨g, 0, none⟩ = some (.int .u64 d)) (hb : b < w.heap.size) (hg : g < w.heap.size)
    (hm : m < 0) (e1 : wrap64 d = m) (e2 : wrap64 (-m) = m) :
    Calls Yba.prog 9 #[.pointer (some ⟨b, 0, none⟩), .int .i64 k] w fun e w' => e = .returned (.agg #[.int .i64 m, .pointer none, .int .i64 k]) ∧ Fr (fun _ => False) w w' := by
  go_enter Yba.func9, Yba.ntmps9
  go_wp2
  refine bodyPost_ret (v := .agg #[.int .i64 m, .pointer none, .int .i64 k]) (by simp [results, Yba.results9, go_sem]) rfl ⟨rfl, ?_⟩
  exact (Fr.refl _ w).alloc _
set_option maxHeartbeats 400000 in
theorem dec_over (b g c : Nat) (neg : Bool) (d m m2 k : Int) (w : World) (c0 : w.cell? ⟨b, 0, none⟩ = some (.bool neg)) (c1 : w.cell? ⟨b, 1, none⟩ = some (.slice (some ⟨g, 0, none⟩) 1 c)) (cg : w.cell? ⟨g, 0, none⟩ = some (.int .u64 d)) (hb : b < w.heap.size) (hg : g < w.heap.size)
    (hm : m < 0) (e1 : wrap64 d = m) (e2 : wrap64 (-m) = m2) (e3 : neg = true → (m == m2) = false) :
    Calls Yba.prog 9 #[.pointer (some ⟨b, 0, none⟩), .int .i64 k] w fun e w' => e = .returned (.agg #[.int .i64 0, .pointer (some ⟨b, 0, none⟩), .int .i64 k]) ∧ Fr (fun _ => False) w w' := by
  cases neg
  · clear e3
    go_enter Yba.func9, Yba.ntmps9
    go_wp2
    refine bodyPost_ret (v := .agg #[.int .i64 0, .pointer (some ⟨b, 0, none⟩), .int .i64 k]) (by simp [results, Yba.results9, go_sem]) rfl ⟨rfl, ?_⟩
    exact (Fr.refl _ w).alloc _
  · have e4 := e3 rfl
    clear e3
    go_enter Yba.func9, Yba.ntmps9
    go_wp2
    refine bodyPost_ret (v := .agg #[.int .i64 0, .pointer (some ⟨b, 0, none⟩), .int .i64 k]) (by simp [results, Yba.results9, go_sem]) rfl ⟨rfl, ?_⟩
    exact (Fr.refl _ w).alloc _
set_option maxHeartbeats 400000 in
theorem dec_long (b n c : Nat) (a : Option Addr) (neg : Bool) (k : Int) (w : World) (c0 : w.cell? ⟨b, 0, none⟩ = some (.bool neg)) (c1 : w.cell? ⟨b, 1, none⟩ = some (.slice a n c)) (hb : b < w.heap.size) (hn : 1 < n) (hn2 : n ≤ 1000) :
    Calls Yba.prog 9 #[.pointer (some ⟨b, 0, none⟩), .int .i64 k] w fun e w' => e = .returned (.agg #[.int .i64 0, .pointer (some ⟨b, 0, none⟩), .int .i64 k]) ∧ Fr (fun _ => False) w w' := by
  go_enter Yba.func9, Yba.ntmps9
  go_wp2
  refine bodyPost_ret (v := .agg #[.int .i64 0, .pointer (some ⟨b, 0, none⟩), .int .i64 k]) (by simp [results, Yba.results9, go_sem]) rfl ⟨rfl, ?_⟩
  exact (Fr.refl _ w).alloc _
end Go.Proofs.Ybulkanxo
