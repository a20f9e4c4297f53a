/-
  math/big.Int.Sub of two numbers that are not negative, into a new Int.
-/
import Derived.Test.YbulkanxoIntAdd
namespace Go.Proofs.Ybulkanxo
open Go.RowKit
set_option linter.unusedVariables false

set_option maxHeartbeats 2000000 in
theorem sub_int_ge (bz bx bY : Nat) (X Y : Nt) (w : World) (hz : w.heap[bz]? = some (hdr false (.slice none 0 0))) (hx : BigAt w bx false X) (hy : BigAt w bY false Y) (hge : Y.num ≤ X.num) (lx : X.len ≤ 900) (ly : Y.len ≤ 900) :
    Calls Yba.prog 18 #[.pointer (some ⟨bz, 0, none⟩), .pointer (some ⟨bx, 0, none⟩), .pointer (some ⟨bY, 0, none⟩)] w fun e w' =>
      ∃ R : Nt, e = .returned (.pointer (some ⟨bz, 0, none⟩)) ∧ BigAt w' bz false R ∧ R.num = X.num - Y.num ∧ Fr (fun k => k = bz ∨ False) w w' ∧ (∀ k, R.has k → False ∨ w.heap.size ≤ k) := by
  obtain ⟨ax, nx, cx, hXv⟩ := X.is_slice
  obtain ⟨ay, ny, cy, hYv⟩ := Y.is_slice
  have hn : ∀ d, Calls Yba.prog 31 #[.slice none 0 0, .slice ax nx cx, .slice ay ny cy] (w.drewN d) fun e w' => Res (fun _ => False) (w.drewN d) w' (X.num - Y.num) e := by
    intro d
    rw [← hXv, ← hYv]
    exact natSub X Y (w.drewN d) hx.ok hy.ok hge lx
  obtain ⟨cr, hcr⟩ : ∃ cr, cr = cmpN X.num Y.num := ⟨_, rfl⟩
  have hcr0 : 0 ≤ cr := by rw [hcr]; unfold cmpN; split <;> (try split) <;> omega
  have hcmp : ∀ d d2, Calls Yba.prog 30 #[.slice ax nx cx, .slice ay ny cy] (w.drewN (d + d2)) fun e w' => e = .returned (.int .i64 cr) ∧ ∃ m, w' = w.drewN (d + m) := by
    intro d d2
    rw [← hXv, ← hYv, hcr]
    exact (natCmp X Y (w.drewN (d + d2)) hx.ok hy.ok (by omega) (by omega)).mono fun e w' ⟨h1, m, h2⟩ => ⟨h1, d2 + m, by rw [h2, World.drewN_drewN, Nat.add_assoc]⟩
  have cz1 := hdr_abs hz
  have cx1 : w.cell? ⟨bx, 1, none⟩ = some (.slice ax nx cx) := by rw [← hXv]; exact hdr_abs hx.hdr
  have cx0 := hdr_neg hx.hdr
  have cy1 : w.cell? ⟨bY, 1, none⟩ = some (.slice ay ny cy) := by rw [← hYv]; exact hdr_abs hy.hdr
  have cy0 := hdr_neg hy.hdr
  have HN := hid hn
  have HC := hid hcmp
  clear hn hcmp hXv hYv hcr
  go_enter Yba.func18, Yba.ntmps18
  go_wp2_with fail
  go_quiet (fail)
  go_wp2
  go_quiet ((go_at_call 30; exact HC.out _ _))
  go_wp2
  go_region_with (go_at_call 31; refine (HN.out _).mono ?_; rintro e w1 ⟨R, rfl, q1, q2, q3, q4⟩; obtain ⟨k1, k2, k3, k4, HR⟩ := add_after hz (fun f => f) ⟨q1, q2, q3, q4⟩; obtain ⟨a2, n2, c2, hRv⟩ := R.is_slice; rw [hRv]; have HRV := hid hRv; clear hRv q1 q2 q3 q4)
  all_goals
    by_cases h0 : 0 < n2
    · go_wp2
      go_ret
      obtain ⟨r1, r2, r3, r4, r5⟩ := HR.out
      obtain ⟨s1, s2⟩ := stored (neg := false) r1 r2 r4 HRV.out
      exact ⟨R, rfl, s1, r3, s2, r5⟩
    · obtain rfl : n2 = 0 := by omega
      go_wp2
      go_ret
      obtain ⟨r1, r2, r3, r4, r5⟩ := HR.out
      obtain ⟨s1, s2⟩ := stored (neg := false) r1 r2 r4 HRV.out
      exact ⟨R, rfl, s1, r3, s2, r5⟩

theorem Nt.len_of_v {R : Nt} {a : Option Addr} {n c : Nat} (h : R.v = .slice a n c) : R.len = n := by
  cases R with
  | nil => simp [Nt.v] at h; exact h.2.1
  | blk g cs k => simp [Nt.v] at h; exact h.2.1
theorem Nt.num_len0 {R : Nt} (h : R.len = 0) : R.num = 0 := by
  cases R with
  | nil => rfl
  | blk g cs k => have : k = 0 := h; subst this; rfl

set_option maxHeartbeats 2000000 in
theorem sub_int_lt (bz bx bY : Nat) (X Y : Nt) (w : World) (hz : w.heap[bz]? = some (hdr false (.slice none 0 0))) (hx : BigAt w bx false X) (hy : BigAt w bY false Y) (hlt : X.num < Y.num) (lx : X.len ≤ 900) (ly : Y.len ≤ 900) :
    Calls Yba.prog 18 #[.pointer (some ⟨bz, 0, none⟩), .pointer (some ⟨bx, 0, none⟩), .pointer (some ⟨bY, 0, none⟩)] w fun e w' =>
      ∃ R : Nt, e = .returned (.pointer (some ⟨bz, 0, none⟩)) ∧ BigAt w' bz true R ∧ R.num = Y.num - X.num ∧ Fr (fun k => k = bz ∨ False) w w' ∧ (∀ k, R.has k → False ∨ w.heap.size ≤ k) := by
  obtain ⟨ax, nx, cx, hXv⟩ := X.is_slice
  obtain ⟨ay, ny, cy, hYv⟩ := Y.is_slice
  have hn : ∀ d, Calls Yba.prog 31 #[.slice none 0 0, .slice ay ny cy, .slice ax nx cx] (w.drewN d) fun e w' => Res (fun _ => False) (w.drewN d) w' (Y.num - X.num) e := by
    intro d
    rw [← hXv, ← hYv]
    exact natSub Y X (w.drewN d) hy.ok hx.ok (by omega) ly
  have hcmp : ∀ d d2, Calls Yba.prog 30 #[.slice ax nx cx, .slice ay ny cy] (w.drewN (d + d2)) fun e w' => e = .returned (.int .i64 (-1)) ∧ ∃ m, w' = w.drewN (d + m) := by
    intro d d2
    rw [← hXv, ← hYv, ← cmpN_lt hlt]
    exact (natCmp X Y (w.drewN (d + d2)) hx.ok hy.ok (by omega) (by omega)).mono fun e w' ⟨h1, m, h2⟩ => ⟨h1, d2 + m, by rw [h2, World.drewN_drewN, Nat.add_assoc]⟩
  have cz1 := hdr_abs hz
  have cx1 : w.cell? ⟨bx, 1, none⟩ = some (.slice ax nx cx) := by rw [← hXv]; exact hdr_abs hx.hdr
  have cx0 := hdr_neg hx.hdr
  have cy1 : w.cell? ⟨bY, 1, none⟩ = some (.slice ay ny cy) := by rw [← hYv]; exact hdr_abs hy.hdr
  have cy0 := hdr_neg hy.hdr
  have HN := hid hn
  have HC := hid hcmp
  have HLT := hid hlt
  clear hn hcmp hXv hYv hlt
  go_enter Yba.func18, Yba.ntmps18
  go_wp2_with fail
  go_quiet (fail)
  go_wp2
  go_quiet ((go_at_call 30; exact HC.out _ _))
  go_wp2
  go_region_with (go_at_call 31; refine (HN.out _).mono ?_; rintro e w1 ⟨R, rfl, q1, q2, q3, q4⟩; obtain ⟨k1, k2, k3, k4, HR⟩ := add_after hz (fun f => f) ⟨q1, q2, q3, q4⟩; obtain ⟨a2, n2, c2, hRv⟩ := R.is_slice; rw [hRv]; have HRV := hid hRv; clear hRv q1 q2 q3 q4)
  all_goals
    have h0 : 0 < n2 := by
      apply Nat.pos_of_ne_zero
      intro h
      have e1 := Nt.num_len0 ((Nt.len_of_v HRV.out).trans h)
      have e2 := HR.out.2.2.1
      have e3 := HLT.out
      omega
    go_wp2
    go_ret
    obtain ⟨r1, r2, r3, r4, r5⟩ := HR.out
    obtain ⟨s1, s2⟩ := stored (neg := true) r1 r2 r4 HRV.out
    exact ⟨R, rfl, s1, r3, s2, r5⟩
end Go.Proofs.Ybulkanxo
