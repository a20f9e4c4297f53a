/-
  accrua: away, roundCut, bitAt, shiftDown, anyBelow; math/bits.Mul64.
-/
import Derived.Test.YbulkanxoBits
import Derived.Test.YbulkanxoThree
namespace Go.Proofs.Ybulkanxo
open Go.RowKit
set_option linter.unusedVariables false

set_option maxHeartbeats 400000 in
theorem away_any (r half : Int) (odd : Bool) (w : World) : Calls Yba.prog 55 #[.int .i64 r, .int .i64 half, .bool odd] w fun e w' => .returned (.bool (awayP r half odd)) = e ∧ w = w' := by
  obtain ⟨R, hR⟩ : ∃ R, R = awayP r half odd := ⟨_, rfl⟩
  rw [← hR]
  by_cases h2 : r = 2
  · have hb : (r == 2) = true := by simp [h2]
    have : R = false := by rw [hR]; simp [awayP, h2]
    subst this
    clear hR h2
    go_enter Yba.func55, Yba.ntmps55
    go_wp2
    go_ret
    exact ⟨rfl, rfl⟩
  have hb : (r == 2) = false := by simp [h2]
  by_cases hn : half < 0
  · have : R = false := by rw [hR]; simp [awayP, hn]
    subst this
    clear hR h2
    go_enter Yba.func55, Yba.ntmps55
    go_wp2
    go_ret
    exact ⟨rfl, rfl⟩
  by_cases hp : 0 < half
  · have : R = true := by rw [hR]; simp [awayP, hn, hp, h2]
    subst this
    clear hR h2
    go_enter Yba.func55, Yba.ntmps55
    go_wp2
    go_ret
    exact ⟨rfl, rfl⟩
  by_cases h0 : r = 0
  · subst h0
    have : R = true := by rw [hR]; simp [awayP, hn]
    subst this
    clear hR h2
    go_enter Yba.func55, Yba.ntmps55
    go_wp2
    go_ret
    exact ⟨rfl, rfl⟩
  · have hb0 : (r == 0) = false := by simp [h0]
    have : R = odd := by rw [hR]; simp [awayP, hn, hp, h0, h2]
    subst this
    clear hR h2 h0
    go_enter Yba.func55, Yba.ntmps55
    go_wp2
    go_ret
    exact ⟨rfl, rfl⟩

theorem and_one (q : Nat) (hq : q < B) : bits BinOp.and IntKind.u64 (q : Int) 1 = ((q % 2 : Nat) : Int) := by
  have := u64_and_nat q 1 hq (by decide)
  have e : ((1 : Nat) : Int) = 1 := rfl
  rw [e] at this
  rw [this, nat_mask1]

set_option maxHeartbeats 400000 in
theorem round_any (q : Nat) (half r : Int) (w : World) (hq : q ≤ 4611686018427387904) : Calls Yba.prog 38 #[.int .u64 (q : Int), .int .i64 half, .int .i64 r] w fun e w' => .returned (.int .i64 (roundP q half r : Nat)) = e ∧ w = w' := by
  have ha := and_one q (by unfold B; omega)
  obtain ⟨t, ht⟩ : ∃ t, t = q % 2 := ⟨_, rfl⟩
  have htb : ((t : Int) == 1) = decide (q % 2 = 1) := by
    rw [ht]
    by_cases h : q % 2 = 1 <;> simp [h] <;> omega
  rw [← ht] at ha
  obtain ⟨O, hO⟩ : ∃ O, O = decide (q % 2 = 1) := ⟨_, rfl⟩
  rw [← hO] at htb
  have haw := away_any r half O w
  obtain ⟨A, hA⟩ : ∃ A, A = awayP r half O := ⟨_, rfl⟩
  rw [← hA] at haw
  have hR : roundP q half r = if A then q + 1 else q := by unfold roundP; rw [hA, hO]
  rw [hR]
  have HAW := hid haw
  clear hR hA hO ht haw
  cases A
  · simp only [Bool.false_eq_true, if_false]
    go_enter Yba.func38, Yba.ntmps38
    go_wp2_with (go_at_call 55; refine HAW.out.mono ?_; rintro e w' ⟨rfl, rfl⟩)
    go_ret
    exact ⟨rfl, rfl⟩
  · simp only [if_true]
    go_enter Yba.func38, Yba.ntmps38
    go_wp2_with (go_at_call 55; refine HAW.out.mono ?_; rintro e w' ⟨rfl, rfl⟩)
    go_ret
    exact ⟨by go_num, rfl⟩

theorem bit_rule (x b : Nat) (hx : x < B) : bits BinOp.and IntKind.u64 ((x : Int) / 2 ^ b) 1 = ((x / 2 ^ b % 2 : Nat) : Int) := by
  have e : (x : Int) / 2 ^ b = ((x / 2 ^ b : Nat) : Int) := by simp
  rw [e]
  exact and_one _ (Nat.lt_of_le_of_lt (Nat.div_le_self _ _) hx)

set_option maxHeartbeats 400000 in
theorem bit_walk (x0 x1 x2 b i t : Nat) (k : Nat) (hk : k < 3) (w : World) (hi : (i : Int) / 64 = (k : Int)) (hb : (i : Int) % 64 = (b : Int)) (hb64 : b < 64) (hi2 : i < 192)
    (ht : bits BinOp.and IntKind.u64 (((if k = 0 then x0 else if k = 1 then x1 else x2 : Nat) : Int) / 2 ^ b) 1 = (t : Int)) :
    Calls Yba.prog 36 #[.agg #[.int .u64 x0, .int .u64 x1, .int .u64 x2], .int .u64 (i : Int)] w fun e w' => .returned (.int .u64 (t : Int)) = e ∧ Fr (fun _ => False) w w' := by
  have hk' : k = 0 ∨ k = 1 ∨ k = 2 := by omega
  rcases hk' with rfl | rfl | rfl
  · simp only [if_true] at ht
    have hi' : (i : Int) / 64 = 0 := hi
    clear hi
    go_enter Yba.func36, Yba.ntmps36
    go_wp2
    go_ret
    exact ⟨rfl, (Fr.refl _ w).alloc _⟩
  · simp only [if_true, Nat.one_ne_zero, if_false] at ht
    have hi' : (i : Int) / 64 = 1 := hi
    clear hi
    go_enter Yba.func36, Yba.ntmps36
    go_wp2
    go_ret
    exact ⟨rfl, (Fr.refl _ w).alloc _⟩
  · have e : (if (2 : Nat) = 0 then x0 else if (2 : Nat) = 1 then x1 else x2) = x2 := rfl
    rw [e] at ht
    have hi' : (i : Int) / 64 = 2 := hi
    clear hi e
    go_enter Yba.func36, Yba.ntmps36
    go_wp2
    go_ret
    exact ⟨rfl, (Fr.refl _ w).alloc _⟩
theorem bit_any (x0 x1 x2 i : Nat) (h0 : x0 < B) (h1 : x1 < B) (h2 : x2 < B) (hi : i < 192) (w : World) :
    Calls Yba.prog 36 #[.agg #[.int .u64 x0, .int .u64 x1, .int .u64 x2], .int .u64 (i : Int)] w fun e w' => .returned (.int .u64 ((X3 x0 x1 x2 / 2 ^ i % 2 : Nat) : Int)) = e ∧ Fr (fun _ => False) w w' := by
  have hk : i / 64 = 0 ∨ i / 64 = 1 ∨ i / 64 = 2 := by omega
  refine bit_walk x0 x1 x2 (i % 64) i _ (i / 64) (by omega) w (by omega) (by omega) (by omega) hi ?_
  rcases hk with h | h | h
  · rw [h, if_pos rfl, bit_rule _ _ h0]
    have e : X3 x0 x1 x2 / 2 ^ i = x0 / 2 ^ (i % 64) + 2 ^ (64 - i % 64) * (x1 + B * x2) := by
      have := shift0 x0 x1 x2 (i % 64) (by omega)
      have ei : i % 64 = i := by omega
      rw [← this, ei]
    have e2 : (2 : Nat) ^ (64 - i % 64) = 2 * 2 ^ (63 - i % 64) := by rw [← Nat.pow_succ']; congr 1; omega
    rw [e, e2, Nat.mul_assoc, Nat.add_mul_mod_self_left]
  · rw [h, if_neg (by decide), if_pos rfl, bit_rule _ _ h1]
    have e : X3 x0 x1 x2 / 2 ^ i = x1 / 2 ^ (i % 64) + 2 ^ (64 - i % 64) * x2 := by
      have := shift1 x0 x1 x2 (i % 64) h0 (by omega)
      have ei : 64 + i % 64 = i := by omega
      rw [← this, ei]
    have e2 : (2 : Nat) ^ (64 - i % 64) = 2 * 2 ^ (63 - i % 64) := by rw [← Nat.pow_succ']; congr 1; omega
    rw [e, e2, Nat.mul_assoc, Nat.add_mul_mod_self_left]
  · rw [h, if_neg (by decide), if_neg (by decide), bit_rule _ _ h2]
    have e : X3 x0 x1 x2 / 2 ^ i = x2 / 2 ^ (i % 64) := by
      have := shift2 x0 x1 x2 (i % 64) h0 h1
      have ei : 128 + i % 64 = i := by omega
      rw [← this, ei]
    rw [e]

/-! ### anyBelow -/
theorem wrap_pow (b : Nat) (hb : b < 64) : IntKind.u64.wrap (2 ^ b) = ((2 ^ b : Nat) : Int) := by
  have h : (2 : Nat) ^ b < 2 ^ 64 := Nat.pow_lt_pow_right (by decide) hb
  rw [IntKind.wrap_u64]
  have e : ((2 : Int) ^ b) = ((2 ^ b : Nat) : Int) := by simp
  rw [e]
  generalize (2 : Nat) ^ b = p at h ⊢
  omega
theorem mask_rule (x b : Nat) (hx : x < B) (hb : b < 64) : bits BinOp.and IntKind.u64 (x : Int) (IntKind.u64.wrap (IntKind.u64.wrap (2 ^ b) - 1)) = ((x % 2 ^ b : Nat) : Int) := by
  have h : (2 : Nat) ^ b < 2 ^ 64 := Nat.pow_lt_pow_right (by decide) hb
  have hp : 0 < 2 ^ b := Nat.two_pow_pos b
  have e1 : IntKind.u64.wrap (((2 ^ b : Nat) : Int) - 1) = ((2 ^ b - 1 : Nat) : Int) := by
    rw [IntKind.wrap_u64]
    generalize (2 : Nat) ^ b = p at h hp ⊢
    omega
  rw [wrap_pow b hb, e1, u64_and_nat x _ hx (by omega), Nat.and_two_pow_sub_one_eq_mod]
theorem ne_bool (g : Nat) : ((g : Int) != 0) = decide (g ≠ 0) := by
  by_cases h : g = 0 <;> simp [h]

set_option maxHeartbeats 400000 in
theorem any_walk0 (x0 x1 x2 b i t : Nat) (w : World) (hi : (i : Int) / 64 = 0) (hb : (i : Int) % 64 = (b : Int)) (hb64 : b < 64) (hi2 : i < 192) (ht : bits BinOp.and IntKind.u64 (x0 : Int) (IntKind.u64.wrap (IntKind.u64.wrap (2 ^ b) - 1)) = (t : Int)) :
    Calls Yba.prog 37 #[.agg #[.int .u64 x0, .int .u64 x1, .int .u64 x2], .int .u64 (i : Int)] w fun e w' => .returned (.bool ((t : Int) != 0)) = e ∧ Fr (fun _ => False) w w' := by
  go_enter Yba.func37, Yba.ntmps37
  go_wp2
  refine wp_loop_rounds 1 ?_
  rw [rounds_succ]
  go_wp2
  go_ret
  exact ⟨rfl, (Fr.refl _ w).alloc _⟩
set_option maxHeartbeats 400000 in
theorem any_walk1 (x0 x1 x2 b i t : Nat) (w : World) (hi : (i : Int) / 64 = 1) (hb : (i : Int) % 64 = (b : Int)) (hb64 : b < 64) (hi2 : i < 192) (ht : bits BinOp.and IntKind.u64 (x1 : Int) (IntKind.u64.wrap (IntKind.u64.wrap (2 ^ b) - 1)) = (t : Int)) :
    Calls Yba.prog 37 #[.agg #[.int .u64 x0, .int .u64 x1, .int .u64 x2], .int .u64 (i : Int)] w fun e w' => .returned (.bool ((x0 : Int) != 0 || (t : Int) != 0)) = e ∧ Fr (fun _ => False) w w' := by
  by_cases h0 : x0 = 0
  · subst h0
    go_enter Yba.func37, Yba.ntmps37
    go_wp2
    refine wp_loop_rounds 2 ?_
    rw [rounds_succ]
    go_wp2
    rw [rounds_succ]
    go_wp2
    go_ret
    exact ⟨by simp, (Fr.refl _ w).alloc _⟩
  · have hb0 : ((x0 : Int) != 0) = true := by simp; omega
    go_enter Yba.func37, Yba.ntmps37
    go_wp2
    refine wp_loop_rounds 1 ?_
    rw [rounds_succ]
    go_wp2
    go_ret
    exact ⟨by simp [hb0], (Fr.refl _ w).alloc _⟩
set_option maxHeartbeats 400000 in
theorem any_walk2 (x0 x1 x2 b i t : Nat) (w : World) (hi : (i : Int) / 64 = 2) (hb : (i : Int) % 64 = (b : Int)) (hb64 : b < 64) (hi2 : i < 192) (ht : bits BinOp.and IntKind.u64 (x2 : Int) (IntKind.u64.wrap (IntKind.u64.wrap (2 ^ b) - 1)) = (t : Int)) :
    Calls Yba.prog 37 #[.agg #[.int .u64 x0, .int .u64 x1, .int .u64 x2], .int .u64 (i : Int)] w fun e w' => .returned (.bool ((x0 : Int) != 0 || (x1 : Int) != 0 || (t : Int) != 0)) = e ∧ Fr (fun _ => False) w w' := by
  by_cases h0 : x0 = 0
  · subst h0
    by_cases h1 : x1 = 0
    · subst h1
      go_enter Yba.func37, Yba.ntmps37
      go_wp2
      refine wp_loop_rounds 3 ?_
      rw [rounds_succ]
      go_wp2
      rw [rounds_succ]
      go_wp2
      rw [rounds_succ]
      go_wp2
      go_ret
      exact ⟨by simp, (Fr.refl _ w).alloc _⟩
    · have hb1 : ((x1 : Int) != 0) = true := by simp; omega
      go_enter Yba.func37, Yba.ntmps37
      go_wp2
      refine wp_loop_rounds 2 ?_
      rw [rounds_succ]
      go_wp2
      rw [rounds_succ]
      go_wp2
      go_ret
      exact ⟨by simp [hb1], (Fr.refl _ w).alloc _⟩
  · have hb0 : ((x0 : Int) != 0) = true := by simp; omega
    go_enter Yba.func37, Yba.ntmps37
    go_wp2
    refine wp_loop_rounds 1 ?_
    rw [rounds_succ]
    go_wp2
    go_ret
    exact ⟨by simp [hb0], (Fr.refl _ w).alloc _⟩

theorem any_any (x0 x1 x2 i : Nat) (h0 : x0 < B) (h1 : x1 < B) (h2 : x2 < B) (hi : i < 192) (w : World) :
    Calls Yba.prog 37 #[.agg #[.int .u64 x0, .int .u64 x1, .int .u64 x2], .int .u64 (i : Int)] w fun e w' => .returned (.bool (decide (X3 x0 x1 x2 % 2 ^ i ≠ 0))) = e ∧ Fr (fun _ => False) w w' := by
  have hk : i / 64 = 0 ∨ i / 64 = 1 ∨ i / 64 = 2 := by omega
  have hb64 : i % 64 < 64 := by omega
  rcases hk with h | h | h
  · have := any_walk0 x0 x1 x2 (i % 64) i _ w (by omega) (by omega) hb64 hi (mask_rule x0 _ h0 hb64)
    have e : X3 x0 x1 x2 % 2 ^ i = x0 % 2 ^ (i % 64) := by
      have := below0 x0 x1 x2 (i % 64) (by omega)
      have ei : i % 64 = i := by omega
      rw [← this, ei]
    rw [ne_bool, ← e] at this
    exact this
  · have := any_walk1 x0 x1 x2 (i % 64) i _ w (by omega) (by omega) hb64 hi (mask_rule x1 _ h1 hb64)
    have e : X3 x0 x1 x2 % 2 ^ i = x0 + B * (x1 % 2 ^ (i % 64)) := by
      have := below1 x0 x1 x2 (i % 64) h0 (by omega)
      have ei : 64 + i % 64 = i := by omega
      rw [← this, ei]
    have e2 : (decide (x0 ≠ 0) || decide (x1 % 2 ^ (i % 64) ≠ 0)) = decide (X3 x0 x1 x2 % 2 ^ i ≠ 0) := by
      rw [e]
      generalize x1 % 2 ^ (i % 64) = g
      have f1 : ∀ y : Nat, B * y = 0 ↔ y = 0 := fun y => by unfold B; omega
      by_cases ha : x0 = 0 <;> by_cases hc : g = 0 <;> simp [ha, hc, f1]
    rw [ne_bool, ne_bool, e2] at this
    exact this
  · have := any_walk2 x0 x1 x2 (i % 64) i _ w (by omega) (by omega) hb64 hi (mask_rule x2 _ h2 hb64)
    have e : X3 x0 x1 x2 % 2 ^ i = x0 + B * x1 + B * B * (x2 % 2 ^ (i % 64)) := by
      have := below2 x0 x1 x2 (i % 64) h0 h1
      have ei : 128 + i % 64 = i := by omega
      rw [← this, ei]
    have e2 : (decide (x0 ≠ 0) || decide (x1 ≠ 0) || decide (x2 % 2 ^ (i % 64) ≠ 0)) = decide (X3 x0 x1 x2 % 2 ^ i ≠ 0) := by
      rw [e]
      generalize x2 % 2 ^ (i % 64) = g
      have f1 : ∀ y : Nat, B * y = 0 ↔ y = 0 := fun y => by unfold B; omega
      have f2 : ∀ y : Nat, B * B * y = 0 ↔ y = 0 := fun y => by unfold B; omega
      by_cases ha : x0 = 0 <;> by_cases hc : g = 0 <;> by_cases hd : x1 = 0 <;> simp [ha, hc, hd, f1, f2]
    rw [ne_bool, ne_bool, ne_bool, e2] at this
    exact this
end Go.Proofs.Ybulkanxo
