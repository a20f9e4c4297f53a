/-
  accrua.shiftDown.
-/
import Derived.Test.YbulkanxoCut
namespace Go.Proofs.Ybulkanxo
open Go.RowKit
set_option linter.unusedVariables false

/-- What shiftDown answers. -/
def ShiftOut (w w' : World) (q : Nat) (ok : Bool) (e : Ending) : Prop := .returned (.tuple #[.int .u64 (q : Int), .bool ok]) = e ∧ Fr (fun _ => False) w w'

section
variable (x0 x1 x2 b i t q : Nat) (w : World)

set_option maxHeartbeats 400000 in
theorem sh2_0 (hi : (i : Int) / 64 = 2) (hb : (i : Int) % 64 = 0) (hi2 : i < 192) :
    Calls Yba.prog 35 #[.agg #[.int .u64 x0, .int .u64 x1, .int .u64 x2], .int .u64 (i : Int)] w fun e w' => ShiftOut w w' x2 true e := by
  go_enter Yba.func35, Yba.ntmps35
  go_wp2
  refine wp_loop_rounds 1 ?_
  rw [rounds_succ]
  go_wp2
  go_ret2
  exact ⟨rfl, (Fr.refl _ w).alloc _⟩
set_option maxHeartbeats 400000 in
theorem sh2_b (hi : (i : Int) / 64 = 2) (hb : (i : Int) % 64 = (b : Int)) (hb0 : 0 < b) (hb64 : b < 64) (hi2 : i < 192) (hq : (x2 : Int) / 2 ^ b = (q : Int)) :
    Calls Yba.prog 35 #[.agg #[.int .u64 x0, .int .u64 x1, .int .u64 x2], .int .u64 (i : Int)] w fun e w' => ShiftOut w w' q true e := by
  have hbb : ((b : Int) != 0) = true := by simp; omega
  go_enter Yba.func35, Yba.ntmps35
  go_wp2
  refine wp_loop_rounds 1 ?_
  rw [rounds_succ]
  go_wp2
  go_ret2
  exact ⟨rfl, (Fr.refl _ w).alloc _⟩

set_option maxHeartbeats 400000 in
theorem sh1_0 (hi : (i : Int) / 64 = 1) (hb : (i : Int) % 64 = 0) (hi2 : i < 192) (h2 : x2 = 0) :
    Calls Yba.prog 35 #[.agg #[.int .u64 x0, .int .u64 x1, .int .u64 x2], .int .u64 (i : Int)] w fun e w' => ShiftOut w w' x1 true e := by
  subst h2
  go_enter Yba.func35, Yba.ntmps35
  go_wp2
  refine wp_loop_rounds 2 ?_
  rw [rounds_succ]
  go_wp2
  rw [rounds_succ]
  go_wp2
  go_ret2
  exact ⟨rfl, (Fr.refl _ w).alloc _⟩
set_option maxHeartbeats 400000 in
theorem sh1_0no (hi : (i : Int) / 64 = 1) (hb : (i : Int) % 64 = 0) (hi2 : i < 192) (h2 : 0 < x2) :
    Calls Yba.prog 35 #[.agg #[.int .u64 x0, .int .u64 x1, .int .u64 x2], .int .u64 (i : Int)] w fun e w' => ShiftOut w w' 0 false e := by
  have hb2 : ((x2 : Int) != 0) = true := by simp; omega
  go_enter Yba.func35, Yba.ntmps35
  go_wp2
  refine wp_loop_rounds 1 ?_
  rw [rounds_succ]
  go_wp2
  go_ret2
  exact ⟨rfl, (Fr.refl _ w).alloc _⟩
set_option maxHeartbeats 400000 in
theorem sh1_b (hi : (i : Int) / 64 = 1) (hb : (i : Int) % 64 = (b : Int)) (hb0 : 0 < b) (hb64 : b < 64) (hi2 : i < 192) (ht : (64 : Int) - (b : Int) = (t : Int)) (ht64 : t < 64) (h2 : (x2 : Int) / 2 ^ b = 0)
    (hq : bits BinOp.or IntKind.u64 ((x1 : Int) / 2 ^ b) (IntKind.u64.wrap ((x2 : Int) * 2 ^ t)) = (q : Int)) :
    Calls Yba.prog 35 #[.agg #[.int .u64 x0, .int .u64 x1, .int .u64 x2], .int .u64 (i : Int)] w fun e w' => ShiftOut w w' q true e := by
  have hbb : ((b : Int) != 0) = true := by simp; omega
  go_enter Yba.func35, Yba.ntmps35
  go_wp2
  refine wp_loop_rounds 2 ?_
  rw [rounds_succ]
  go_wp2
  rw [rounds_succ]
  go_wp2
  go_ret2
  exact ⟨rfl, (Fr.refl _ w).alloc _⟩
set_option maxHeartbeats 400000 in
theorem sh1_bno (hi : (i : Int) / 64 = 1) (hb : (i : Int) % 64 = (b : Int)) (hb0 : 0 < b) (hb64 : b < 64) (hi2 : i < 192) (ht : (64 : Int) - (b : Int) = (t : Int)) (ht64 : t < 64) (h2 : (x2 : Int) / 2 ^ b = (q : Int)) (hq : 0 < q) :
    Calls Yba.prog 35 #[.agg #[.int .u64 x0, .int .u64 x1, .int .u64 x2], .int .u64 (i : Int)] w fun e w' => ShiftOut w w' 0 false e := by
  have hbb : ((b : Int) != 0) = true := by simp; omega
  have hb2 : ((q : Int) != 0) = true := by simp; omega
  go_enter Yba.func35, Yba.ntmps35
  go_wp2
  refine wp_loop_rounds 1 ?_
  rw [rounds_succ]
  go_wp2
  go_ret2
  exact ⟨rfl, (Fr.refl _ w).alloc _⟩

set_option maxHeartbeats 400000 in
theorem sh0_b (hi : (i : Int) / 64 = 0) (hb : (i : Int) % 64 = (b : Int)) (hb0 : 0 < b) (hb64 : b < 64) (hi2 : i < 192) (ht : (64 : Int) - (b : Int) = (t : Int)) (ht64 : t < 64) (h1 : (x1 : Int) / 2 ^ b = 0) (h2 : x2 = 0)
    (hq : bits BinOp.or IntKind.u64 ((x0 : Int) / 2 ^ b) (IntKind.u64.wrap ((x1 : Int) * 2 ^ t)) = (q : Int)) :
    Calls Yba.prog 35 #[.agg #[.int .u64 x0, .int .u64 x1, .int .u64 x2], .int .u64 (i : Int)] w fun e w' => ShiftOut w w' q true e := by
  subst h2
  have hbb : ((b : Int) != 0) = true := by simp; omega
  go_enter Yba.func35, Yba.ntmps35
  go_wp2
  refine wp_loop_rounds 3 ?_
  rw [rounds_succ]
  go_wp2
  rw [rounds_succ]
  go_wp2
  rw [rounds_succ]
  go_wp2
  go_ret2
  exact ⟨rfl, (Fr.refl _ w).alloc _⟩
set_option maxHeartbeats 400000 in
theorem sh0_bno1 (hi : (i : Int) / 64 = 0) (hb : (i : Int) % 64 = (b : Int)) (hb0 : 0 < b) (hb64 : b < 64) (hi2 : i < 192) (ht : (64 : Int) - (b : Int) = (t : Int)) (ht64 : t < 64) (h1 : (x1 : Int) / 2 ^ b = (q : Int)) (hq : 0 < q) :
    Calls Yba.prog 35 #[.agg #[.int .u64 x0, .int .u64 x1, .int .u64 x2], .int .u64 (i : Int)] w fun e w' => ShiftOut w w' 0 false e := by
  have hbb : ((b : Int) != 0) = true := by simp; omega
  have hb2 : ((q : Int) != 0) = true := by simp; omega
  go_enter Yba.func35, Yba.ntmps35
  go_wp2
  refine wp_loop_rounds 1 ?_
  rw [rounds_succ]
  go_wp2
  go_ret2
  exact ⟨rfl, (Fr.refl _ w).alloc _⟩
set_option maxHeartbeats 400000 in
theorem sh0_bno2 (hi : (i : Int) / 64 = 0) (hb : (i : Int) % 64 = (b : Int)) (hb0 : 0 < b) (hb64 : b < 64) (hi2 : i < 192) (ht : (64 : Int) - (b : Int) = (t : Int)) (ht64 : t < 64) (h1 : (x1 : Int) / 2 ^ b = 0) (h2 : 0 < x2) :
    Calls Yba.prog 35 #[.agg #[.int .u64 x0, .int .u64 x1, .int .u64 x2], .int .u64 (i : Int)] w fun e w' => ShiftOut w w' 0 false e := by
  have hbb : ((b : Int) != 0) = true := by simp; omega
  have hb2 : ((x2 : Int) != 0) = true := by simp; omega
  go_enter Yba.func35, Yba.ntmps35
  go_wp2
  refine wp_loop_rounds 2 ?_
  rw [rounds_succ]
  go_wp2
  rw [rounds_succ]
  go_wp2
  go_ret2
  exact ⟨rfl, (Fr.refl _ w).alloc _⟩
end

theorem or_rule (u y b t : Nat) (hu : u < B) (hbt : b + t = 64) (hy : y < 2 ^ b) : bits BinOp.or IntKind.u64 ((u : Int) / 2 ^ b) (IntKind.u64.wrap ((y : Int) * 2 ^ t)) = ((u / 2 ^ b + 2 ^ t * y : Nat) : Int) := by
  have hB : 2 ^ b * 2 ^ t = B := by rw [← Nat.pow_add, hbt]; rfl
  have h1 : y * 2 ^ t < B := by rw [← hB]; exact Nat.mul_lt_mul_of_pos_right hy (Nat.two_pow_pos t)
  have h2 : u / 2 ^ b < 2 ^ t := by rw [← hB] at hu; exact Nat.div_lt_of_lt_mul hu
  have e1 : (u : Int) / 2 ^ b = ((u / 2 ^ b : Nat) : Int) := by simp
  have e2 : IntKind.u64.wrap ((y : Int) * 2 ^ t) = ((y * 2 ^ t : Nat) : Int) := by
    have e3 : (y : Int) * 2 ^ t = ((y * 2 ^ t : Nat) : Int) := by simp
    rw [e3, IntKind.wrap_u64]
    generalize y * 2 ^ t = g at h1 ⊢
    unfold B at h1
    omega
  rw [e1, e2, u64_or_nat _ _ (Nat.lt_of_le_of_lt (Nat.div_le_self _ _) hu) h1, Nat.or_comm, nat_join t _ _ (Nat.mul_mod_left _ _) h2, Nat.add_comm, Nat.mul_comm y]
theorem div_zero (x b : Nat) (h : x < 2 ^ b) : (x : Int) / 2 ^ b = 0 := by
  have e1 : (x : Int) / 2 ^ b = ((x / 2 ^ b : Nat) : Int) := by simp
  rw [e1, Nat.div_eq_of_lt h]; rfl
theorem div_nat (x b : Nat) : (x : Int) / 2 ^ b = ((x / 2 ^ b : Nat) : Int) := by simp
theorem div_pos (x b : Nat) (h : ¬ x < 2 ^ b) : 0 < x / 2 ^ b := Nat.div_pos (Nat.le_of_not_lt h) (Nat.two_pow_pos b)

theorem shift_any (x0 x1 x2 s : Nat) (h0 : x0 < B) (h1 : x1 < B) (h2 : x2 < B) (hs1 : 1 ≤ s) (hs : s < 192) (w : World) :
    Calls Yba.prog 35 #[.agg #[.int .u64 x0, .int .u64 x1, .int .u64 x2], .int .u64 (s : Int)] w fun e w' =>
      ShiftOut w w' (if X3 x0 x1 x2 / 2 ^ s < B then X3 x0 x1 x2 / 2 ^ s else 0) (decide (X3 x0 x1 x2 / 2 ^ s < B)) e := by
  have fin : ∀ (q : Nat), X3 x0 x1 x2 / 2 ^ s = q → q < B → (Calls Yba.prog 35 #[.agg #[.int .u64 x0, .int .u64 x1, .int .u64 x2], .int .u64 (s : Int)] w fun e w' => ShiftOut w w' q true e) →
      Calls Yba.prog 35 #[.agg #[.int .u64 x0, .int .u64 x1, .int .u64 x2], .int .u64 (s : Int)] w fun e w' => ShiftOut w w' (if X3 x0 x1 x2 / 2 ^ s < B then X3 x0 x1 x2 / 2 ^ s else 0) (decide (X3 x0 x1 x2 / 2 ^ s < B)) e := by
    intro q hq hlt h
    rw [hq, if_pos hlt, decide_eq_true hlt]
    exact h
  have fno : ¬ X3 x0 x1 x2 / 2 ^ s < B → (Calls Yba.prog 35 #[.agg #[.int .u64 x0, .int .u64 x1, .int .u64 x2], .int .u64 (s : Int)] w fun e w' => ShiftOut w w' 0 false e) →
      Calls Yba.prog 35 #[.agg #[.int .u64 x0, .int .u64 x1, .int .u64 x2], .int .u64 (s : Int)] w fun e w' => ShiftOut w w' (if X3 x0 x1 x2 / 2 ^ s < B then X3 x0 x1 x2 / 2 ^ s else 0) (decide (X3 x0 x1 x2 / 2 ^ s < B)) e := by
    intro hlt h
    rw [if_neg hlt, decide_eq_false hlt]
    exact h
  have hk : s / 64 = 0 ∨ s / 64 = 1 ∨ s / 64 = 2 := by omega
  have hb64 : s % 64 < 64 := by omega
  obtain ⟨b, hb⟩ : ∃ b, b = s % 64 := ⟨_, rfl⟩
  rw [← hb] at hb64
  have hbi : (s : Int) % 64 = (b : Int) := by omega
  rcases hk with h | h | h
  · -- the lowest word
    have hb0 : 0 < b := by omega
    have es : s = b := by omega
    have e := shift0 x0 x1 x2 b (by omega)
    have hfit := fits_iff x0 (x1 + B * x2) b h0 (by omega)
    rw [← e, ← es] at hfit
    rw [← es] at e
    have hpb : (2 : Nat) ^ b < B := Nat.pow_lt_pow_right (by decide) hb64
    by_cases hx2 : x2 = 0
    · by_cases hx1 : x1 < 2 ^ b
      · have hlt : X3 x0 x1 x2 / 2 ^ s < B := hfit.2 (by rw [hx2, es]; omega)
        refine fin _ rfl hlt (sh0_b x0 x1 x2 b s (64 - b) _ w (by omega) hbi hb0 hb64 hs (by omega) (by omega) (div_zero _ _ hx1) hx2 ?_)
        rw [or_rule x0 x1 b (64 - b) h0 (by omega) hx1, e, hx2, es]; simp
      · refine fno (fun hlt => hx1 ?_) (sh0_bno1 x0 x1 x2 b s (64 - b) _ w (by omega) hbi hb0 hb64 hs (by omega) (by omega) (div_nat _ _) (div_pos _ _ hx1))
        have := hfit.1 hlt
        rw [es] at this
        omega
    · by_cases hx1 : x1 < 2 ^ b
      · refine fno (fun hlt => ?_) (sh0_bno2 x0 x1 x2 b s (64 - b) w (by omega) hbi hb0 hb64 hs (by omega) (by omega) (div_zero _ _ hx1) (by omega))
        have := hfit.1 hlt
        rw [es] at this
        have h3 : B * 1 ≤ B * x2 := Nat.mul_le_mul_left _ (by omega)
        omega
      · refine fno (fun hlt => hx1 ?_) (sh0_bno1 x0 x1 x2 b s (64 - b) _ w (by omega) hbi hb0 hb64 hs (by omega) (by omega) (div_nat _ _) (div_pos _ _ hx1))
        have := hfit.1 hlt
        rw [es] at this
        omega
  · have es : s = 64 + b := by omega
    have e := shift1 x0 x1 x2 b h0 (by omega)
    have hfit := fits_iff x1 x2 b h1 (by omega)
    rw [← e, ← es] at hfit
    rw [← es] at e
    by_cases hb0 : b = 0
    · have hbi0 : (s : Int) % 64 = 0 := by omega
      by_cases hx2 : x2 = 0
      · refine fin x1 ?_ h1 (sh1_0 x0 x1 x2 s w (by omega) hbi0 hs hx2)
        rw [e, hx2, hb0]; simp
      · refine fno (fun hlt => hx2 ?_) (sh1_0no x0 x1 x2 s w (by omega) hbi0 hs (by omega))
        have := hfit.1 hlt
        rw [hb0] at this
        omega
    · by_cases hx2 : x2 < 2 ^ b
      · have hlt : X3 x0 x1 x2 / 2 ^ s < B := hfit.2 hx2
        refine fin _ rfl hlt (sh1_b x0 x1 x2 b s (64 - b) _ w (by omega) hbi (by omega) hb64 hs (by omega) (by omega) (div_zero _ _ hx2) ?_)
        rw [or_rule x1 x2 b (64 - b) h1 (by omega) hx2, e]
      · exact fno (fun hlt => hx2 (hfit.1 hlt)) (sh1_bno x0 x1 x2 b s (64 - b) _ w (by omega) hbi (by omega) hb64 hs (by omega) (by omega) (div_nat _ _) (div_pos _ _ hx2))
  · have es : s = 128 + b := by omega
    have e := shift2 x0 x1 x2 b h0 h1
    rw [← es] at e
    have hlt : x2 / 2 ^ b < B := Nat.lt_of_le_of_lt (Nat.div_le_self _ _) h2
    by_cases hb0 : b = 0
    · refine fin x2 (by rw [e, hb0]; simp) h2 (sh2_0 x0 x1 x2 s w (by omega) (by omega) hs)
    · exact fin _ e hlt (sh2_b x0 x1 x2 b s _ w (by omega) hbi (by omega) hb64 hs (div_nat _ _))
end Go.Proofs.Ybulkanxo
