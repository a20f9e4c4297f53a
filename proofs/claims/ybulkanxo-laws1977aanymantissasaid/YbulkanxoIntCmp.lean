/-
  math/big.Int.Cmp of two numbers of one sign; NewInt(1).
-/
import Derived.Test.YbulkanxoIntMore
namespace Go.Proofs.Ybulkanxo
open Go.RowKit
set_option linter.unusedVariables false

set_option maxHeartbeats 1000000 in
theorem cmp_int (bx bY : Nat) (neg : Bool) (X Y : Nt) (w : World) (hx : BigAt w bx neg X) (hy : BigAt w bY neg Y) (hne : bx ≠ bY) (lx : X.len ≤ 900) (ly : Y.len ≤ 900) :
    Calls Yba.prog 14 #[.pointer (some ⟨bx, 0, none⟩), .pointer (some ⟨bY, 0, none⟩)] w fun e w' => e = .returned (.int .i64 (if neg then -cmpN X.num Y.num else cmpN X.num Y.num)) ∧ ∃ d, w' = w.drewN d := by
  obtain ⟨ax, nx, cx, hXv⟩ := X.is_slice
  obtain ⟨ay, ny, cy, hYv⟩ := Y.is_slice
  obtain ⟨cr, hcr⟩ : ∃ cr, cr = cmpN X.num Y.num := ⟨_, rfl⟩
  have hcr1 : -1 ≤ cr := by rw [hcr]; unfold cmpN; split <;> (try split) <;> omega
  have hcr2 : cr ≤ 1 := by rw [hcr]; unfold cmpN; split <;> (try split) <;> omega
  have hcmp : ∀ d d2, Calls Yba.prog 30 #[.slice ax nx cx, .slice ay ny cy] (w.drewN (d + d2)) fun e w' => e = .returned (.int .i64 cr) ∧ ∃ m, w' = w.drewN (d + m) := by
    intro d d2
    rw [← hXv, ← hYv, hcr]
    exact (natCmp X Y (w.drewN (d + d2)) hx.ok hy.ok (by omega) (by omega)).mono fun e w' ⟨h1, m, h2⟩ => ⟨h1, d2 + m, by rw [h2, World.drewN_drewN, Nat.add_assoc]⟩
  have cx1 : w.cell? ⟨bx, 1, none⟩ = some (.slice ax nx cx) := by rw [← hXv]; exact hdr_abs hx.hdr
  have cx0 := hdr_neg hx.hdr
  have cy1 : w.cell? ⟨bY, 1, none⟩ = some (.slice ay ny cy) := by rw [← hYv]; exact hdr_abs hy.hdr
  have cy0 := hdr_neg hy.hdr
  have hp := (ptr_other w bx bY _ _ _ _ hne hx.hdr hy.hdr).1
  have HC := hid hcmp
  rw [← hcr]
  clear hcmp hXv hYv hcr hne
  cases neg
  · go_enter Yba.func14, Yba.ntmps14
    go_wp2
    go_quiet (fail)
    go_wp2
    go_quiet ((go_at_call 30; exact HC.out _ _))
    go_wp2
    go_ret
    exact ⟨rfl, _, rfl⟩
  · go_enter Yba.func14, Yba.ntmps14
    go_wp2
    go_quiet (fail)
    go_wp2
    go_quiet ((go_at_call 30; exact HC.out _ _))
    go_wp2
    go_ret
    exact ⟨rfl, _, rfl⟩

set_option maxHeartbeats 400000 in
theorem newInt_one (w : World) : Calls Yba.prog 8 #[.int .i64 1] w fun e w' =>
    ∃ R : Nt, e = .returned (.pointer (some ⟨w.heap.size + 1, 0, none⟩)) ∧ BigAt w' (w.heap.size + 1) false R ∧ R.num = 1 ∧ Fr (fun _ => False) w w' ∧ (∀ k, R.has k → w.heap.size ≤ k) ∧ R.good := by
  go_enter Yba.func8, Yba.ntmps8
  go_wp2
  go_ret
  refine ⟨.blk w.heap.size [1] 1, rfl, ⟨?_, ?_, ?_, Nat.le_refl _, ?_⟩, rfl, ((Fr.refl _ w).alloc _).alloc _, fun k (hk : k = _) => by omega, Nat.zero_lt_one⟩
  · have := heap_new (w.alloc (row [1])) (hdr false (Nt.blk w.heap.size [1] 1).v)
    rw [size_new] at this
    exact this
  · exact row_alloc (heap_new w (row [1]))
  · intro d h; simp at h; subst h; decide
  · intro _; decide
end Go.Proofs.Ybulkanxo
