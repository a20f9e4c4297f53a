/-
  Ints made in a block that was taken some steps before.
-/
import Derived.Test.YbulkanxoWide
namespace Go.Proofs.Ybulkanxo
open Go.RowKit
set_option linter.unusedVariables false

theorem own_at {g : Bool} {W w' : World} {bz : Nat} {neg : Bool} {v : Nat} {R : Nt} (hz : W.heap[bz]? = some new0) (hb : BigAt w' bz neg R) (hv : R.num = v) (hf : Fr (fun k => k = bz ∨ False) W w') (hR : ∀ k, R.has k → False ∨ W.heap.size ≤ k) (hg : g = true → v = 0 → R = .nil) :
    OwnG g w' bz w'.heap.size bz neg v ∧ Below bz W w' := by
  have hlt := lt_of_block hz
  have hsz := hf.size
  refine ⟨⟨R, hb, hv, Nat.le_refl _, lt_of_block hb.hdr, Nat.le_refl _, fun k hk => ⟨?_, Nt.has_lt hb.ok hk⟩, hg⟩, ?_⟩
  · have := (hR k hk).resolve_left (fun f => f); omega
  · exact hf.below (by omega) (fun k hk => by have := hk.resolve_right (fun f => f); omega)

theorem c_lshAt {g : Bool} {lo hi bx : Nat} {neg : Bool} {v : Nat} (bz s : Nat) (W : World) (hz : W.heap[bz]? = some new0) (hx : OwnG g W lo hi bx neg v) (hne : bx ≠ bz) (hv : v < B ^ 100) (hs : s ≤ 1000) :
    Calls Yba.prog 11 #[.pointer (some ⟨bz, 0, none⟩), .pointer (some ⟨bx, 0, none⟩), .int .u64 (s : Int)] W fun e w' =>
      .returned (.pointer (some ⟨bz, 0, none⟩)) = e ∧ OwnG true w' bz w'.heap.size bz neg (v * 2 ^ s) ∧ Below bz W w' := by
  obtain ⟨X, h1, h2, h3, h4, h5, h6, h7⟩ := hx
  have hl := len_bound h1.ok h2 hv
  refine (lsh_fresh bz bx neg X s W hz h1 hne (by omega)).mono fun e w' ⟨R, he, hb, hRv, hf, hR, hg⟩ => ?_
  rw [h2] at hRv
  exact ⟨he.symm, own_at hz hb hRv (hf.mono (fun _ _ h => .inl h)) (fun k hk => .inr (hR k hk)) (fun _ h0 => hg (by rw [hRv]; exact h0))⟩

theorem c_addAt {lo hi bx lo2 hi2 bY : Nat} {v v2 : Nat} (bz : Nat) (W : World) (hz : W.heap[bz]? = some new0) (hx : OwnG true W lo hi bx false v) (hy : OwnG true W lo2 hi2 bY false v2) (hv : v < B ^ 100) (hv2 : v2 < B ^ 100) :
    Calls Yba.prog 12 #[.pointer (some ⟨bz, 0, none⟩), .pointer (some ⟨bx, 0, none⟩), .pointer (some ⟨bY, 0, none⟩)] W fun e w' =>
      .returned (.pointer (some ⟨bz, 0, none⟩)) = e ∧ OwnG true w' bz w'.heap.size bz false (v + v2) ∧ Below bz W w' := by
  obtain ⟨X, h1, h2, h3, h4, h5, h6, h7⟩ := hx
  obtain ⟨Y, k1, k2, k3, k4, k5, k6, k7⟩ := hy
  have hl := len_bound h1.ok h2 hv
  have kl := len_bound k1.ok k2 hv2
  refine (add_int bz bx bY false .nil X Y W hz trivial h1 k1 (Nt.good_of (fun h => h7 rfl (by rw [← h2]; exact h))) (Nt.good_of (fun h => k7 rfl (by rw [← k2]; exact h))) (.inl rfl) (by omega) (by omega)).mono fun e w' ⟨R, he, hb, hRv, hf, hR, hg⟩ => ?_
  rw [h2, k2] at hRv
  exact ⟨he.symm, own_at hz hb hRv (hf.mono (fun _ _ h => h.imp id (fun f => f))) (fun k hk => (hR k hk).imp (fun f => f) id) (fun _ h0 => hg (by rw [hRv]; exact h0))⟩

theorem c_subAt {g g2 : Bool} {lo hi bx lo2 hi2 bY : Nat} {v v2 : Nat} (bz : Nat) (W : World) (hz : W.heap[bz]? = some new0) (hx : OwnG g W lo hi bx false v) (hy : OwnG g2 W lo2 hi2 bY false v2) (hv : v < B ^ 100) (hv2 : v2 < B ^ 100) :
    Calls Yba.prog 18 #[.pointer (some ⟨bz, 0, none⟩), .pointer (some ⟨bx, 0, none⟩), .pointer (some ⟨bY, 0, none⟩)] W fun e w' =>
      .returned (.pointer (some ⟨bz, 0, none⟩)) = e ∧ OwnG false w' bz w'.heap.size bz (decide (v < v2)) (if v < v2 then v2 - v else v - v2) ∧ Below bz W w' := by
  obtain ⟨X, h1, h2, h3, h4, h5, h6, h7⟩ := hx
  obtain ⟨Y, k1, k2, k3, k4, k5, k6, k7⟩ := hy
  have hl := len_bound h1.ok h2 hv
  have kl := len_bound k1.ok k2 hv2
  by_cases hlt : v < v2
  · rw [if_pos hlt, decide_eq_true hlt]
    refine (sub_int_lt bz bx bY X Y W hz h1 k1 (by omega) (by omega) (by omega)).mono fun e w' ⟨R, he, hb, hRv, hf, hR⟩ => ?_
    rw [h2, k2] at hRv
    exact ⟨he.symm, own_at hz hb hRv hf hR (fun h => by cases h)⟩
  · rw [if_neg hlt, decide_eq_false hlt]
    refine (sub_int_ge bz bx bY X Y W hz h1 k1 (by omega) (by omega) (by omega)).mono fun e w' ⟨R, he, hb, hRv, hf, hR⟩ => ?_
    rw [h2, k2] at hRv
    exact ⟨he.symm, own_at hz hb hRv hf hR (fun h => by cases h)⟩

/-- A block below a step's reach is as it was. -/
theorem kept_at {W w' : World} {Bb k : Nat} {o : Obj} (h : W.heap[k]? = some o) (hb : Below Bb W w') (hk : k < Bb) : w'.heap[k]? = some o := (hb.block k hk).trans h
end Go.Proofs.Ybulkanxo
