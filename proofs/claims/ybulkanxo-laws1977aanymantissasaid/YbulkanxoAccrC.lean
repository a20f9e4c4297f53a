/-
  accrua.wideAccrual: what it answers.
-/
import Derived.Test.YbulkanxoAccrB
namespace Go.Proofs.Ybulkanxo
open Go.RowKit
set_option linter.unusedVariables false
set_option linter.unusedSectionVars false

/-- The product, off its words. -/
theorem words_of (a hi lo : Nat) : X3 (a * lo % B) ((a * hi % B + a * lo / B) % B) (a * hi / B + (a * hi % B + a * lo / B) / B) = a * (hi * B + lo) := by
  have e1 := Nat.div_add_mod (a * lo) B
  have e2 := Nat.div_add_mod (a * hi) B
  have e3 := Nat.div_add_mod (a * hi % B + a * lo / B) B
  have e4 : a * (hi * B + lo) = B * (a * hi) + a * lo := by rw [Nat.mul_add, ← Nat.mul_assoc, Nat.mul_comm B]
  rw [e4]
  unfold X3
  generalize a * hi = u at *
  generalize a * lo = v at *
  unfold B at *
  omega
theorem top_lt (a hi lo : Nat) (ha : a < 4611686018427387904) (h1 : hi < B) (h2 : lo < B) : a * hi / B + (a * hi % B + a * lo / B) / B < B := by
  have e1 : a * hi ≤ 4611686018427387904 * B := Nat.mul_le_mul (by omega) (by omega)
  have e2 : a * lo ≤ 4611686018427387904 * B := Nat.mul_le_mul (by omega) (by omega)
  have e3 : a * hi / B ≤ 4611686018427387904 := by
    have := Nat.div_le_div_right (c := B) e1
    rwa [Nat.mul_div_cancel _ B_pos] at this
  have e4 : a * lo / B ≤ 4611686018427387904 := by
    have := Nat.div_le_div_right (c := B) e2
    rwa [Nat.mul_div_cancel _ B_pos] at this
  have e5 := Nat.mod_lt (a * hi) B_pos
  generalize a * hi / B = u at *
  generalize a * lo / B = v at *
  generalize a * hi % B = y at *
  have e6 : (y + v) / B ≤ 2 := by
    have : y + v ≤ 2 * B := by unfold B at *; omega
    have := Nat.div_le_div_right (c := B) this
    rwa [Nat.mul_div_cancel _ B_pos] at this
  unfold B at *
  omega

theorem roundP_le (q : Nat) (half r : Int) : roundP q half r ≤ q + 1 := by unfold roundP; split <;> omega

section
variable (a hi lo : Nat) (exp r : Int) (w : World) (ha : a < 4611686018427387904) (h1 : hi < B) (h2 : lo < B)
include ha h1 h2

theorem mulHi : Hid (∀ wx, Calls Yba.prog 33 #[.int .u64 a, .int .u64 hi] wx fun e w' => .returned (.tuple #[.int .u64 ((a * hi / B : Nat) : Int), .int .u64 ((a * hi % B : Nat) : Int)]) = e ∧ wx = w') :=
  fun wx => mul_any a hi (by unfold B; omega) h1 wx
theorem mulLo : Hid (∀ wx, Calls Yba.prog 33 #[.int .u64 a, .int .u64 lo] wx fun e w' => .returned (.tuple #[.int .u64 ((a * lo / B : Nat) : Int), .int .u64 ((a * lo % B : Nat) : Int)]) = e ∧ wx = w') :=
  fun wx => mul_any a lo (by unfold B; omega) h2 wx
theorem addMid : ∀ wx, (callFunc 34 #[.int .u64 ((a * hi % B : Nat) : Int), .int .u64 ((a * lo / B : Nat) : Int), .int .u64 0]).run Yba.prog wx = .ok (.value (.tuple #[.int .u64 (((a * hi % B + a * lo / B) % B : Nat) : Int), .int .u64 (((a * hi % B + a * lo / B) / B : Nat) : Int)])) wx := fun wx => by
  have e5 := Nat.mod_lt (a * hi) B_pos
  have e2 : a * lo ≤ 4611686018427387904 * B := Nat.mul_le_mul (by omega) (by omega)
  have e4 : a * lo / B ≤ 4611686018427387904 := by
    have := Nat.div_le_div_right (c := B) e2
    rwa [Nat.mul_div_cancel _ B_pos] at this
  generalize a * hi % B = y at *
  generalize a * lo / B = v at *
  have := add64 (y : Int) (v : Int) 0 (by omega) (by unfold B at *; omega) (by omega) (by unfold B at *; omega) wx
  rw [Int.add_zero] at this
  have f1 : (((y + v) % B : Nat) : Int) = ((y : Int) + v) % 18446744073709551616 := by unfold B; omega
  have f2 : (((y + v) / B : Nat) : Int) = ((y : Int) + v) / 18446744073709551616 := by unfold B; omega
  rw [f1, f2]
  exact this
theorem addTop : IntKind.u64.wrap (((a * hi / B : Nat) : Int) + (((a * hi % B + a * lo / B) / B : Nat) : Int)) = ((a * hi / B + (a * hi % B + a * lo / B) / B : Nat) : Int) := by
  have h := top_lt a hi lo ha h1 h2
  rw [IntKind.wrap_u64]
  generalize a * hi / B = u at *
  generalize (a * hi % B + a * lo / B) / B = v at *
  unfold B at h
  omega

/-- Out of range: no answer. -/
theorem accr_out (hexp : exp < -63 ∨ 127 < exp) (hm : -9223372036854775808 ≤ exp) (hM : exp < 9223372036854775808) :
    Calls Yba.prog 15 #[.int .u64 (a : Int), .agg #[.int .u64 (hi : Int), .int .u64 (lo : Int), .int .i64 exp], .int .i64 r] w fun e w' => AccrOut w w' 0 0 false e := by
  by_cases h : wrap64 (128 - exp) < 1
  · exact accr_low a hi lo exp r w _ _ _ _ _ _ _ (mulHi a hi lo ha h1 h2) (mulLo a hi lo ha h1 h2) (addMid a hi lo ha h1 h2) (addTop a hi lo ha h1 h2) _ rfl h
  · refine accr_high a hi lo exp r w _ _ _ _ _ _ _ (mulHi a hi lo ha h1 h2) (mulLo a hi lo ha h1 h2) (addMid a hi lo ha h1 h2) (addTop a hi lo ha h1 h2) _ rfl ?_
    unfold wrap64 at *
    simp at *
    omega

/-- In range, the debt too large: no answer. -/
theorem accr_big_any (s : Nat) (hs : (s : Int) = 128 - exp) (hs1 : 1 ≤ s) (hs2 : s ≤ 191) (hno : ¬ a * (hi * B + lo) / 2 ^ s < 4611686018427387904) :
    Calls Yba.prog 15 #[.int .u64 (a : Int), .agg #[.int .u64 (hi : Int), .int .u64 (lo : Int), .int .i64 exp], .int .i64 r] w fun e w' => AccrOut w w' 0 0 false e := by
  have hw : wrap64 (128 - exp) = (s : Int) := by rw [← hs]; unfold wrap64; omega
  have hX := words_of a hi lo
  have hsh := shift_any _ _ _ s (Nat.mod_lt (a * lo) B_pos) (Nat.mod_lt (a * hi % B + a * lo / B) B_pos) (top_lt a hi lo ha h1 h2) hs1 (by omega)
  rw [hX] at hsh
  by_cases hB : a * (hi * B + lo) / 2 ^ s < B
  · rw [if_pos hB, decide_eq_true hB] at hsh
    exact accr_big a hi lo s exp r w _ _ _ _ _ _ _ _ (mulHi a hi lo ha h1 h2) (mulLo a hi lo ha h1 h2) (addMid a hi lo ha h1 h2) (addTop a hi lo ha h1 h2) hw hs1 hs2 (by omega) hsh
  · rw [if_neg hB, decide_eq_false hB] at hsh
    exact accr_no a hi lo s exp r w _ _ _ _ _ _ _ (mulHi a hi lo ha h1 h2) (mulLo a hi lo ha h1 h2) (addMid a hi lo ha h1 h2) (addTop a hi lo ha h1 h2) hw hs1 hs2 hsh

/-- In range: the rounded quotients. -/
theorem accr_ok (s : Nat) (hs : (s : Int) = 128 - exp) (hs1 : 1 ≤ s) (hs2 : s ≤ 191) (q : Nat) (cut more : Bool) (hq : a * (hi * B + lo) / 2 ^ s = q) (hc : decide (a * (hi * B + lo) / 2 ^ (s - 1) % 2 = 1) = cut) (hmo : decide (a * (hi * B + lo) % 2 ^ (s - 1) ≠ 0) = more) (hq2 : q < 4611686018427387904) :
    Calls Yba.prog 15 #[.int .u64 (a : Int), .agg #[.int .u64 (hi : Int), .int .u64 (lo : Int), .int .i64 exp], .int .i64 r] w fun e w' => AccrOut w w' (interestP q a cut more r) (debtP q cut more r) true e := by
  have hw : wrap64 (128 - exp) = (s : Int) := by rw [← hs]; unfold wrap64; omega
  have hX := words_of a hi lo
  have b0 := Nat.mod_lt (a * lo) B_pos
  have b1 := Nat.mod_lt (a * hi % B + a * lo / B) B_pos
  have b2 := top_lt a hi lo ha h1 h2
  have hsh := shift_any _ _ _ s b0 b1 b2 hs1 (by omega)
  have hbit := bit_any _ _ _ (s - 1) b0 b1 b2 (by omega)
  have hany := any_any _ _ _ (s - 1) b0 b1 b2 (by omega)
  rw [hX] at hsh hbit hany
  rw [hq, if_pos (by unfold B; omega), decide_eq_true (by unfold B; omega)] at hsh
  rw [hmo] at hany
  have ht : (((a * (hi * B + lo) / 2 ^ (s - 1) % 2 : Nat) : Int) == 1) = cut := by
    rw [← hc]
    generalize a * (hi * B + lo) / 2 ^ (s - 1) % 2 = g
    by_cases h : g = 1 <;> simp [h] <;> omega
  have hd : ∀ wx, Calls Yba.prog 38 #[.int .u64 (q : Int), .int .i64 (halfP cut more), .int .i64 r] wx fun e w' => .returned (.int .i64 ((roundP q (halfP cut more) r : Nat) : Int)) = e ∧ wx = w' := fun wx => round_any q _ r wx (by omega)
  refine accr_yes a hi lo s exp r w _ _ _ q _ _ _ _ (mulHi a hi lo ha h1 h2) (mulLo a hi lo ha h1 h2) (addMid a hi lo ha h1 h2) (addTop a hi lo ha h1 h2) _ (s - 1) cut more (halfP cut more) (-(halfP cut more)) _ _ (fun _ => rfl) (fun _ => rfl) hw hs1 hs2 (fun _ => by omega) (fun _ => by omega) (fun _ => ht) (fun _ => by omega) (fun _ => by omega) hsh hbit hany hd ?_
  show _ ∨ _ ∨ _
  by_cases hqa : a ≤ q
  · refine .inl ⟨by omega, q - a, roundP (q - a) (halfP cut more) r, by rw [IntKind.wrap_u64]; omega, ?_, fun wx => round_any _ _ _ _ (by omega)⟩
    unfold interestP
    rw [if_pos hqa]
  · have hf : ((a : Int) ≤ q) = False := eq_false (by omega)
    by_cases hz : (!cut && !more) = true
    · refine .inr (.inl ⟨hf, by cases cut <;> cases more <;> simp_all, a - q, by rw [IntKind.wrap_u64]; omega, ⟨by unfold wrap64; omega, by unfold wrap64; omega⟩, ?_⟩)
      unfold interestP
      rw [if_neg hqa, if_pos hz]
    · have hle := roundP_le (a - q - 1) (-(halfP cut more)) r
      refine .inr (.inr ⟨hf, by cases cut <;> cases more <;> simp_all, a - q - 1, a - q, roundP (a - q - 1) (-(halfP cut more)) r, by rw [IntKind.wrap_u64]; omega, by rw [IntKind.wrap_u64]; omega, by unfold wrap64; omega, ?_, fun wx => round_any _ _ _ _ (by omega)⟩)
      unfold interestP
      rw [if_neg hqa, if_neg hz]
end
end Go.Proofs.Ybulkanxo
