/-
  x.Lsh(x, 64), x of one word at most.
-/
import Derived.Test.YbulkanxoOwn
namespace Go.Proofs.Ybulkanxo
open Go.RowKit
set_option linter.unusedVariables false

theorem natLsh64 (X : Nt) (w : World) (hX : X.ok w) (hS : X = .nil ∨ ∃ g d, X = .blk g [d] 1) : Calls Yba.prog 28 #[X.v, X.v, .int .u64 64] w fun e w' => ResG (fun _ => False) w w' (X.num * 2 ^ 64) e := by
  rcases hS with rfl | ⟨g, d, rfl⟩
  · exact natLsh .nil 64 w trivial (by decide)
  · exact lsh_new (some ⟨g, 0, none⟩) 1 1 g 1 64 [d] w hX (by omega) (by omega) (by omega) (by omega) _

set_option maxHeartbeats 1000000 in
theorem lsh_self (b : Nat) (X : Nt) (w : World) (hx : BigAt w b false X) (hS : X = .nil ∨ ∃ g d, X = .blk g [d] 1) :
    Calls Yba.prog 11 #[.pointer (some ⟨b, 0, none⟩), .pointer (some ⟨b, 0, none⟩), .int .u64 64] w fun e w' =>
      ∃ R : Nt, e = .returned (.pointer (some ⟨b, 0, none⟩)) ∧ BigAt w' b false R ∧ R.num = X.num * 2 ^ 64 ∧ Fr (fun k => k = b ∨ False) w w' ∧ (∀ k, R.has k → False ∨ w.heap.size ≤ k) ∧ (R.num = 0 → R = .nil) := by
  obtain ⟨a, n, c, hXv⟩ := X.is_slice
  have hn : ∀ d, Calls Yba.prog 28 #[.slice a n c, .slice a n c, .int .u64 64] (w.drewN d) fun e w' => ResG (fun _ => False) (w.drewN d) w' (X.num * 2 ^ 64) e := by
    intro d
    rw [← hXv]
    exact natLsh64 X (w.drewN d) hx.ok hS
  have c1 : w.cell? ⟨b, 1, none⟩ = some (.slice a n c) := by rw [← hXv]; exact hdr_abs hx.hdr
  have hz := hx.hdr
  rw [hXv] at hz
  obtain ⟨M, hM⟩ : ∃ M, M = X.num * 2 ^ 64 := ⟨_, rfl⟩
  rw [← hM] at hn ⊢
  have HN := hid hn
  clear hn hXv hS hM
  go_enter Yba.func11, Yba.ntmps11
  go_wp2
  go_region_with (go_at_call 28; refine (HN.out 1).mono ?_; rintro e w1 ⟨R, rfl, q1, q2, q3, q4, q5⟩; obtain ⟨k1, k2, k3, k4, HR⟩ := add_after hz (fun f => f) ⟨q1, q2, q3, q4⟩; obtain ⟨a2, n2, c2, hRv⟩ := R.is_slice; rw [hRv]; have HRV := hid hRv; have Q5 := hid q5; clear hRv q1 q2 q3 q4 q5)
  all_goals go_wp2
  all_goals
    go_ret
    obtain ⟨r1, r2, r3, r4, r5⟩ := HR.out
    obtain ⟨s1, s2⟩ := stored (neg := false) r1 r2 r4 HRV.out
    exact ⟨R, rfl, s1, r3, s2, r5, fun h => Q5.out (by rw [← r3]; exact h)⟩

theorem c_lsh64 {lo hi b v : Nat} (w : World) (hx : OwnS w lo hi b v) :
    Calls Yba.prog 11 #[.pointer (some ⟨b, 0, none⟩), .pointer (some ⟨b, 0, none⟩), .int .u64 64] w fun e w' =>
      e = .returned (.pointer (some ⟨b, 0, none⟩)) ∧ OwnG true w' lo w'.heap.size b false (v * 2 ^ 64) ∧ Below lo w w' := by
  obtain ⟨X, h1, h2, h3, h4, h5, h6, h7, h8⟩ := hx
  refine (lsh_self b X w h1 h8).mono fun e w' ⟨R, he, hb, hRv, hf, hR, hg⟩ => ?_
  rw [h2] at hRv
  have hsz := hf.size
  refine ⟨he, ⟨R, hb, hRv, h3, lt_of_block hb.hdr, Nat.le_refl _, fun k hk => ⟨?_, Nt.has_lt hb.ok hk⟩, fun _ h0 => hg (by rw [hRv]; exact h0)⟩, ?_⟩
  · have := (hR k hk).resolve_left (fun f => f); omega
  · exact hf.below (by omega) (fun k hk => by have := hk.resolve_right (fun f => f); omega)
end Go.Proofs.Ybulkanxo
