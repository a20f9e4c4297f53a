/-
  THE PLAIN LAWS OF THE SEAT: no Go in sight (but for the spelling of one bit test): what 'next' answers, bit by bit.
-/
import Derived.Test.YbulkanwmDoorTz
namespace Go.Proofs.YbulkanwmDoor
open Go.RowKit

/-- Row r may be taken. -/
def sat (rows used oneOf r : Nat) : Bool := rows.testBit r && !used.testBit r && !(!(used &&& oneOf == 0) && oneOf.testBit r)

theorem testBit_not (x r : Nat) (hx : x < 18446744073709551616) (hr : r < 64) : (M - x).testBit r = !x.testBit r := by
  have e : M - x = 2 ^ 64 - (x + 1) := by unfold M; omega
  rw [e, Nat.testBit_two_pow_sub_succ hx]
  simp [hr]

theorem free_lt (rows used oneOf : Nat) (hr : rows < 18446744073709551616) : freeN rows used oneOf < 18446744073709551616 := by
  unfold freeN
  split
  · exact and_lt _ _ hr
  · exact and_lt _ _ (and_lt _ _ hr)

theorem free_bit (rows used oneOf r : Nat) (hu : used < 18446744073709551616) (ho : oneOf < 18446744073709551616) (hr : r < 64) :
    (freeN rows used oneOf).testBit r = sat rows used oneOf r := by
  unfold freeN sat
  by_cases h : used &&& oneOf = 0
  · rw [if_pos h, Nat.testBit_and, testBit_not used r hu hr]; simp [h]
  · rw [if_neg h, Nat.testBit_and, Nat.testBit_and, testBit_not used r hu hr, testBit_not oneOf r ho hr]
    have hb : (used &&& oneOf == 0) = false := by simpa using h
    simp [hb]

theorem ctz_bits (x : Nat) (h0 : x ≠ 0) (hx : x < 18446744073709551616) :
    Lib.ctz 64 x < 64 ∧ x.testBit (Lib.ctz 64 x) = true ∧ ∀ j, j < Lib.ctz 64 x → x.testBit j = false := by
  obtain ⟨m, hm, hk⟩ := Lib.ctzFrom_spec 64 x (by omega) hx
  have e : Lib.ctz 64 x = Lib.ctzFrom 64 x := by simp [Lib.ctz, h0]
  rw [e]
  refine ⟨hk, ?_, ?_⟩
  · generalize Lib.ctzFrom 64 x = c at hm hk
    rw [hm, Nat.mul_comm, Nat.testBit_mul_two_pow]; simp
  · intro j hj
    generalize Lib.ctzFrom 64 x = c at hm hk hj
    rw [hm, Nat.mul_comm, Nat.testBit_mul_two_pow]; simp; omega

theorem bit_of_ne {x : Nat} (h0 : x ≠ 0) (hx : x < 18446744073709551616) : ∃ j, j < 64 ∧ x.testBit j = true := by
  obtain ⟨a, b, _⟩ := ctz_bits x h0 hx
  exact ⟨_, a, b⟩

/-- The first row that may be taken is what 'next' answers. -/
theorem next_hit (rows used oneOf k : Nat) (hr : rows < 18446744073709551616) (hu : used < 18446744073709551616) (ho : oneOf < 18446744073709551616) (hk : k < 64)
    (hs : sat rows used oneOf k = true) (hlow : ∀ j, j < k → sat rows used oneOf j = false) : nextN rows used oneOf = (k : Int) := by
  have hb := free_bit rows used oneOf k hu ho hk
  rw [hs] at hb
  have hne : freeN rows used oneOf ≠ 0 := by intro h; rw [h] at hb; simp at hb
  obtain ⟨c1, c2, c3⟩ := ctz_bits _ hne (free_lt rows used oneOf hr)
  have e : Lib.ctz 64 (freeN rows used oneOf) = k := by
    rcases Nat.lt_trichotomy (Lib.ctz 64 (freeN rows used oneOf)) k with h | h | h
    · have := hlow _ h
      rw [← free_bit rows used oneOf _ hu ho c1, c2] at this
      cases this
    · exact h
    · have := c3 k h
      rw [hb] at this
      cases this
  unfold nextN
  rw [if_neg hne, e]

theorem next_miss (rows used oneOf : Nat) (hr : rows < 18446744073709551616) (hu : used < 18446744073709551616) (ho : oneOf < 18446744073709551616)
    (hlow : ∀ j, j < 64 → sat rows used oneOf j = false) : nextN rows used oneOf = -1 := by
  unfold nextN
  rw [if_pos]
  apply Classical.byContradiction
  intro hne
  obtain ⟨j, hj, hb⟩ := bit_of_ne hne (free_lt rows used oneOf hr)
  rw [free_bit rows used oneOf j hu ho hj, hlow j hj] at hb
  cases hb

/-! ### one bit test, as the walk spells it -/
theorem wrap_two_pow (k : Nat) (hk : k < 64) : IntKind.u64.wrap (2 ^ k) = ((2 ^ k : Nat) : Int) := by
  have h : (2 : Nat) ^ k < 2 ^ 64 := Nat.pow_lt_pow_right (by decide) hk
  rw [IntKind.wrap_u64]
  have e : ((2 : Int) ^ k) = ((2 ^ k : Nat) : Int) := by simp
  rw [e]
  generalize (2 : Nat) ^ k = p at h ⊢
  omega
theorem bit_nat (x k : Nat) (hx : x < 18446744073709551616) (hk : k < 64) : bits BinOp.and IntKind.u64 (x : Int) (IntKind.u64.wrap (2 ^ k)) = ((x &&& 2 ^ k : Nat) : Int) := by
  have h : (2 : Nat) ^ k < 2 ^ 64 := Nat.pow_lt_pow_right (by decide) hk
  rw [wrap_two_pow k hk, u64_and_nat x _ hx h]
theorem and_pow_off (x k : Nat) (h : x.testBit k = false) : x &&& 2 ^ k = 0 := by
  rw [nat_bit]
  rw [Nat.testBit_eq_decide_div_mod_eq] at h
  have h1 : ¬ (x / 2 ^ k % 2 = 1) := by simpa using h
  have h2 : x / 2 ^ k % 2 = 0 := by omega
  rw [h2, Nat.zero_mul]
theorem and_pow_on (x k : Nat) (h : x.testBit k = true) : 0 < x &&& 2 ^ k := by
  rw [nat_bit]
  rw [Nat.testBit_eq_decide_div_mod_eq] at h
  have h1 : x / 2 ^ k % 2 = 1 := by simpa using h
  rw [h1, Nat.one_mul]
  exact Nat.two_pow_pos k
theorem bit_off (x k : Nat) (hx : x < 18446744073709551616) (hk : k < 64) (h : x.testBit k = false) : bits BinOp.and IntKind.u64 (x : Int) (IntKind.u64.wrap (2 ^ k)) = 0 := by
  rw [bit_nat x k hx hk, and_pow_off x k h]; rfl
theorem bit_on (x k : Nat) (hx : x < 18446744073709551616) (hk : k < 64) (h : x.testBit k = true) : ∃ p : Nat, 0 < p ∧ bits BinOp.and IntKind.u64 (x : Int) (IntKind.u64.wrap (2 ^ k)) = (p : Int) :=
  ⟨_, and_pow_on x k h, bit_nat x k hx hk⟩
end Go.Proofs.YbulkanwmDoor
