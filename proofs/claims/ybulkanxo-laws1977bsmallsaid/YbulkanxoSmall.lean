/-
  THE WALK OF LawS1977BSmall: four ways: n = 0, n > 0, n < 0, n = the least int64.
-/
import Derived.Test.YbulkanxoRows
import Derived.WalkKit
import Derived.WalkSpells
import Derived.WalkLawsBesides
namespace Go.Proofs.Ybulkanxo
open Go.RowKit
set_option maxHeartbeats 400000 in
theorem small_pos (n d : Int) (h0 : 0 < n) (h1 : n ≤ 9223372036854775807) (w : World) :
    Calls Yba.prog 5 #[.int .i64 n, .int .i64 d] w fun e w' => e = .returned (.bool true) ∧ Grown w w' := by
  go_enter Yba.func5, Yba.ntmps5
  go_wp2
  refine bodyPost_ret (v := .agg #[.int .i64 n, .pointer none, .int .i64 d]) (by simp [results, Yba.results9, go_sem]) rfl ?_
  go_wp2
  go_ret
  exact ⟨rfl, by repeat (first | exact Grown.refl _ | apply Grown.drew | apply Grown.alloc)⟩
set_option maxHeartbeats 400000 in
theorem small_zero (d : Int) (w : World) :
    Calls Yba.prog 5 #[.int .i64 0, .int .i64 d] w fun e w' => e = .returned (.bool true) ∧ Grown w w' := by
  go_enter Yba.func5, Yba.ntmps5
  go_wp2
  refine bodyPost_ret (v := .agg #[.int .i64 0, .pointer none, .int .i64 d]) (by simp [results, Yba.results9, go_sem]) rfl ?_
  go_wp2
  go_ret
  exact ⟨rfl, by repeat (first | exact Grown.refl _ | apply Grown.drew | apply Grown.alloc)⟩
set_option maxHeartbeats 400000 in
theorem small_neg (n m d : Int) (h0 : n < 0) (h2 : 0 < m) (h3 : m ≤ 9223372036854775807) (e1 : IntKind.u64.wrap (-IntKind.u64.wrap n) = m) (e2 : (-m == n) = true) (w : World) :
    Calls Yba.prog 5 #[.int .i64 n, .int .i64 d] w fun e w' => e = .returned (.bool true) ∧ Grown w w' := by
  go_enter Yba.func5, Yba.ntmps5
  go_wp2
  refine bodyPost_ret (v := .agg #[.int .i64 (-m), .pointer none, .int .i64 d]) (by simp [results, Yba.results9, go_sem]) rfl ?_
  go_wp2
  go_ret
  exact ⟨rfl, by repeat (first | exact Grown.refl _ | apply Grown.drew | apply Grown.alloc)⟩
set_option maxHeartbeats 400000 in
theorem small_min (n m d : Int) (h0 : n < 0) (e1 : IntKind.u64.wrap (-IntKind.u64.wrap n) = m) (e3 : wrap64 m = n) (e4 : wrap64 (-n) = n) (w : World) :
    Calls Yba.prog 5 #[.int .i64 n, .int .i64 d] w fun e w' => e = .returned (.bool true) ∧ Grown w w' := by
  go_enter Yba.func5, Yba.ntmps5
  go_wp2
  refine bodyPost_ret (v := .agg #[.int .i64 n, .pointer none, .int .i64 d]) (by simp [results, Yba.results9, go_sem]) rfl ?_
  go_wp2
  go_ret
  exact ⟨rfl, by repeat (first | exact Grown.refl _ | apply Grown.drew | apply Grown.alloc)⟩

theorem bounds_i64 {x : Int} (h : (Lit.int .i64 x).wf = true) : -9223372036854775808 ≤ x ∧ x ≤ 9223372036854775807 := by
  simp [Lit.wf, IntKind.min, IntKind.max, IntKind.signed, IntKind.bits] at h
  omega
theorem neg_u64 (n : Int) (h0 : n < 0) (h1 : -9223372036854775808 ≤ n) : IntKind.u64.wrap (-IntKind.u64.wrap n) = -n := by
  rw [IntKind.wrap_u64, IntKind.wrap_u64]; omega

theorem small_any (n d : Int) (w0 : (Lit.int .i64 n).wf = true) (w : World) :
    Calls Yba.prog 5 #[.int .i64 n, .int .i64 d] w fun e w' => e = .returned (.bool true) ∧ Grown w w' := by
  obtain ⟨l, u⟩ := bounds_i64 w0
  by_cases c1 : 0 < n
  · exact small_pos n d c1 u w
  by_cases c2 : n = 0
  · subst c2; exact small_zero d w
  by_cases c3 : n = -9223372036854775808
  · exact small_min n (-n) d (by omega) (neg_u64 n (by omega) l) (by unfold wrap64; omega) (by unfold wrap64; omega) w
  · exact small_neg n (-n) d (by omega) (by omega) (by omega) (neg_u64 n (by omega) l) (by simp) w
end Go.Proofs.Ybulkanxo
