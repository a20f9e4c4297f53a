/-
  THE PLAIN ARITHMETIC OF THREE WORDS: a shift down, one bit, the bits below. No Go in sight.
-/
import Derived.Test.YbulkanxoNum
import Derived.Test.YbulkanxoRound
namespace Go.Proofs.Ybulkanxo

def X3 (x0 x1 x2 : Nat) : Nat := x0 + B * x1 + B * B * x2
theorem B_split {b : Nat} (h : b ≤ 64) : B = 2 ^ b * 2 ^ (64 - b) := by rw [← Nat.pow_add, Nat.add_sub_cancel' h]; rfl

/-- (u + B Y) >> b -/
theorem shift_low (u Y b : Nat) (hb : b ≤ 64) : (u + B * Y) / 2 ^ b = u / 2 ^ b + 2 ^ (64 - b) * Y := by
  rw [B_split hb, Nat.mul_assoc, Nat.add_mul_div_left _ _ (Nat.two_pow_pos b)]
theorem low_lt_pow (u b : Nat) (hu : u < B) (hb : b ≤ 64) : u / 2 ^ b < 2 ^ (64 - b) := by
  rw [B_split hb] at hu
  exact Nat.div_lt_of_lt_mul hu
theorem fits_iff (u Y b : Nat) (hu : u < B) (hb : b ≤ 64) : u / 2 ^ b + 2 ^ (64 - b) * Y < B ↔ Y < 2 ^ b := by
  have h1 := low_lt_pow u b hu hb
  have hp : 0 < 2 ^ (64 - b) := Nat.two_pow_pos _
  constructor
  · intro h
    rw [B_split hb] at h
    apply Classical.byContradiction
    intro hn
    have : 2 ^ (64 - b) * 2 ^ b ≤ 2 ^ (64 - b) * Y := Nat.mul_le_mul_left _ (Nat.le_of_not_lt hn)
    rw [Nat.mul_comm (2 ^ (64 - b))] at this
    generalize u / 2 ^ b = f at *
    generalize 2 ^ (64 - b) * Y = g at *
    generalize 2 ^ b * 2 ^ (64 - b) = i at *
    omega
  · intro h
    rw [B_split hb]
    have : 2 ^ (64 - b) * (Y + 1) ≤ 2 ^ (64 - b) * 2 ^ b := Nat.mul_le_mul_left _ h
    rw [Nat.mul_add, Nat.mul_one, Nat.mul_comm (2 ^ (64 - b)) (2 ^ b)] at this
    generalize u / 2 ^ b = f at *
    generalize 2 ^ (64 - b) * Y = g at *
    generalize 2 ^ b * 2 ^ (64 - b) = i at *
    omega
/-- X >> (64 w + b), w = 0, 1, 2. -/
theorem shift0 (x0 x1 x2 b : Nat) (hb : b ≤ 64) : X3 x0 x1 x2 / 2 ^ b = x0 / 2 ^ b + 2 ^ (64 - b) * (x1 + B * x2) := by
  rw [← shift_low _ _ _ hb]; unfold X3; rw [Nat.mul_add, Nat.add_assoc, Nat.mul_assoc]
theorem shift1 (x0 x1 x2 b : Nat) (h0 : x0 < B) (hb : b ≤ 64) : X3 x0 x1 x2 / 2 ^ (64 + b) = x1 / 2 ^ b + 2 ^ (64 - b) * x2 := by
  rw [Nat.pow_add, ← Nat.div_div_eq_div_mul, ← shift_low _ _ _ hb]
  congr 1
  show (x0 + B * x1 + B * B * x2) / B = _
  rw [Nat.mul_assoc, Nat.add_assoc, ← Nat.mul_add, Nat.add_mul_div_left _ _ B_pos, Nat.div_eq_of_lt h0, Nat.zero_add]
theorem shift2 (x0 x1 x2 b : Nat) (h0 : x0 < B) (h1 : x1 < B) : X3 x0 x1 x2 / 2 ^ (128 + b) = x2 / 2 ^ b := by
  rw [Nat.pow_add, ← Nat.div_div_eq_div_mul]
  congr 1
  show (x0 + B * x1 + B * B * x2) / (B * B) = _
  rw [Nat.add_mul_div_left _ _ (Nat.mul_pos B_pos B_pos), Nat.div_eq_of_lt, Nat.zero_add]
  have : B * (x1 + 1) ≤ B * B := Nat.mul_le_mul_left _ h1
  rw [Nat.mul_add, Nat.mul_one] at this
  omega
theorem X3_lt (x0 x1 x2 : Nat) (h0 : x0 < B) (h1 : x1 < B) (h2 : x2 < B) : X3 x0 x1 x2 < 2 ^ 192 := by
  unfold X3 B at *; omega

/-- The bits below 64 w + b. -/
theorem below0 (x0 x1 x2 b : Nat) (hb : b ≤ 64) : X3 x0 x1 x2 % 2 ^ b = x0 % 2 ^ b := by
  unfold X3
  rw [B_split hb, Nat.mul_assoc (2 ^ b), Nat.mul_assoc (2 ^ b), Nat.mul_assoc (2 ^ b), Nat.add_assoc, ← Nat.mul_add, Nat.add_mul_mod_self_left]
theorem below1 (x0 x1 x2 b : Nat) (h0 : x0 < B) (hb : b ≤ 64) : X3 x0 x1 x2 % 2 ^ (64 + b) = x0 + B * (x1 % 2 ^ b) := by
  rw [Nat.pow_add]
  show X3 x0 x1 x2 % (B * 2 ^ b) = _
  rw [Nat.mod_mul]
  have e1 : X3 x0 x1 x2 % B = x0 := by
    unfold X3
    rw [Nat.mul_assoc, Nat.add_assoc, ← Nat.mul_add, Nat.add_mul_mod_self_left, Nat.mod_eq_of_lt h0]
  have e2 : X3 x0 x1 x2 / B = x1 + B * x2 := by
    unfold X3
    rw [Nat.mul_assoc, Nat.add_assoc, ← Nat.mul_add, Nat.add_mul_div_left _ _ B_pos, Nat.div_eq_of_lt h0, Nat.zero_add]
  have e3 : (x1 + B * x2) % 2 ^ b = x1 % 2 ^ b := by rw [B_split hb, Nat.mul_assoc, Nat.add_mul_mod_self_left]
  rw [e1, e2, e3]
theorem below2 (x0 x1 x2 b : Nat) (h0 : x0 < B) (h1 : x1 < B) : X3 x0 x1 x2 % 2 ^ (128 + b) = x0 + B * x1 + B * B * (x2 % 2 ^ b) := by
  rw [Nat.pow_add]
  show X3 x0 x1 x2 % (B * B * 2 ^ b) = _
  have hlt : x0 + B * x1 < B * B := by
    have : B * (x1 + 1) ≤ B * B := Nat.mul_le_mul_left _ h1
    rw [Nat.mul_add, Nat.mul_one] at this
    omega
  rw [Nat.mod_mul]
  have e1 : X3 x0 x1 x2 % (B * B) = x0 + B * x1 := by
    unfold X3
    rw [Nat.add_mul_mod_self_left, Nat.mod_eq_of_lt hlt]
  have e2 : X3 x0 x1 x2 / (B * B) = x2 := by
    unfold X3
    rw [Nat.add_mul_div_left _ _ (Nat.mul_pos B_pos B_pos), Nat.div_eq_of_lt hlt, Nat.zero_add]
  rw [e1, e2]

/-- cut and more, off the number: the rest below s. -/
theorem rest_of (X s : Nat) (hs : 1 ≤ s) : Rest (X % 2 ^ s) (2 ^ s) (decide (X / 2 ^ (s - 1) % 2 = 1)) (decide (X % 2 ^ (s - 1) ≠ 0)) := by
  obtain ⟨t, rfl⟩ : ∃ t, s = t + 1 := ⟨s - 1, by omega⟩
  rw [Nat.add_sub_cancel]
  have hp : (2 : Nat) ^ (t + 1) = 2 ^ t * 2 := Nat.pow_succ _ _
  have e : X % 2 ^ (t + 1) = X % 2 ^ t + 2 ^ t * (X / 2 ^ t % 2) := by rw [hp, Nat.mod_mul]
  have hq := Nat.two_pow_pos t
  have hm := Nat.mod_lt X hq
  have h2 : X / 2 ^ t % 2 = 0 ∨ X / 2 ^ t % 2 = 1 := by omega
  rw [e, hp]
  generalize X % 2 ^ t = g at *
  generalize (2 : Nat) ^ t = q at *
  rcases h2 with h | h <;> rw [h] <;> constructor <;> simp <;> omega
end Go.Proofs.Ybulkanxo
