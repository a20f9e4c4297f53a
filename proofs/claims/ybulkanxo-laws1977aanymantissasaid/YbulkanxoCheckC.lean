/-
  zzs1977acheck says yes, whatever it is given.
-/
import Derived.Test.YbulkanxoCheckW
namespace Go.Proofs.Ybulkanxo
open Go.RowKit
set_option linter.unusedVariables false

theorem interest_le (q a : Nat) (cut more : Bool) (r : Int) (hq : q < 4611686018427387904) (ha : a < 4611686018427387904) : (interestP q a cut more r).natAbs ≤ 4611686018427387905 := by
  unfold interestP
  split
  · have := roundP_le (q - a) (halfP cut more) r
    omega
  · split
    · omega
    · have := roundP_le (a - q - 1) (-(halfP cut more)) r
      omega
theorem debt_le (q : Nat) (cut more : Bool) (r : Int) (hq : q < 4611686018427387904) : (debtP q cut more r).natAbs ≤ 4611686018427387905 := by
  unfold debtP
  have := roundP_le q (halfP cut more) r
  omega
theorem prod_lt (a hi lo : Nat) (ha : a < 4611686018427387904) (h1 : hi < B) (h2 : lo < B) : a * (hi * B + lo) < B ^ 4 := by
  have e1 : hi * B + lo ≤ B * B := by
    have : (hi + 1) * B ≤ B * B := Nat.mul_le_mul_right _ h1
    rw [Nat.add_mul] at this
    omega
  have e2 : a * (hi * B + lo) ≤ 4611686018427387904 * (B * B) := Nat.mul_le_mul (by omega) e1
  have e3 : 4611686018427387904 * (B * B) < B ^ 4 := by unfold B; decide
  omega
theorem shifted_lt (a s : Nat) (ha : a < 4611686018427387904) (hs : s ≤ 191) : a * 2 ^ s < B ^ 4 := by
  have h1 : (2 : Nat) ^ s ≤ 2 ^ 191 := Nat.pow_le_pow_right (by decide) hs
  have h2 : a * 2 ^ s ≤ 4611686018427387904 * 2 ^ 191 := Nat.mul_le_mul (by omega) h1
  have h3 : 4611686018427387904 * 2 ^ 191 < B ^ 4 := by unfold B; decide
  omega
theorem lt100' {v : Nat} (h : v < B ^ 4) : Lt100 v := lt100 (Nat.lt_of_lt_of_le h (Nat.pow_le_pow_right B_pos (by decide)))
theorem limit_eq (s : Nat) : 1 * 2 ^ (62 + s) = 4611686018427387904 * 2 ^ s := by rw [Nat.one_mul, Nat.pow_add]
theorem limit_lt (s : Nat) (hs : s ≤ 191) : Lt100 (1 * 2 ^ (62 + s)) := by
  rw [limit_eq]
  exact lt_b4 _ s (by unfold B; decide) hs

theorem check_any (a hi lo : Nat) (exp r : Int) (w : World) (ha : a < 4611686018427387904) (h1 : hi < B) (h2 : lo < B) (hm : -9223372036854775808 ≤ exp) (hM : exp < 9223372036854775808) :
    Calls Yba.prog 7 #[.int .u64 (a : Int), .int .u64 (hi : Int), .int .u64 (lo : Int), .int .i64 exp, .int .i64 r] w fun e w' => .returned (.bool true) = e ∧ Below w.heap.size w w' := by
  by_cases hexp : exp < -63 ∨ 127 < exp
  · exact check_out a hi lo exp r w (accr_out a hi lo exp r w ha h1 h2 hexp hm hM) hexp
  obtain ⟨s, hs⟩ : ∃ s : Nat, (s : Int) = 128 - exp := ⟨(128 - exp).toNat, by omega⟩
  have hs1 : 1 ≤ s := by omega
  have hs2 : s ≤ 191 := by omega
  have hw : wrap64 (128 - exp) = (s : Int) := by rw [← hs]; unfold wrap64; omega
  have he1 : (exp < -63) = False := eq_false (fun h => hexp (.inl h))
  have he2 : (127 < exp) = False := eq_false (fun h => hexp (.inr h))
  have h62 : IntKind.u64.wrap (62 + (s : Int)) = ((62 + s : Nat) : Int) := by rw [IntKind.wrap_u64]; omega
  have haB : a < B := by unfold B; omega
  have E := fun wx => exact_any a hi lo wx haB h1 h2
  have bX4 := prod_lt a hi lo ha h1 h2
  have bX := lt100' bX4
  have bL := limit_lt s hs2
  have hp := Nat.two_pow_pos s
  by_cases hq : a * (hi * B + lo) / 2 ^ s < 4611686018427387904
  · have hlt : a * (hi * B + lo) < 1 * 2 ^ (62 + s) := by rw [limit_eq]; exact (Nat.div_lt_iff_lt_mul hp).1 hq
    have A := accr_ok a hi lo exp r w ha h1 h2 s hs hs1 hs2 _ _ _ rfl rfl rfl hq
    have hR := rest_of (a * (hi * B + lo)) s hs1
    have hX : a * (hi * B + lo) = a * (hi * B + lo) / 2 ^ s * 2 ^ s + a * (hi * B + lo) % 2 ^ s := (Nat.div_add_mod' _ _).symm
    obtain ⟨dc, d0⟩ := debt_core _ _ _ _ _ _ r hp hX hR
    obtain ⟨ic, i1, i2⟩ := interest_core _ _ _ _ a _ _ r hp hX hR
    have dl := debt_le (a * (hi * B + lo) / 2 ^ s) (decide (a * (hi * B + lo) / 2 ^ (s - 1) % 2 = 1)) (decide (a * (hi * B + lo) % 2 ^ (s - 1) ≠ 0)) r hq
    have il := interest_le (a * (hi * B + lo) / 2 ^ s) a (decide (a * (hi * B + lo) / 2 ^ (s - 1) % 2 = 1)) (decide (a * (hi * B + lo) % 2 ^ (s - 1) ≠ 0)) r hq ha
    have bs := shifted_lt a s ha hs2
    generalize debtP (a * (hi * B + lo) / 2 ^ s) (decide (a * (hi * B + lo) / 2 ^ (s - 1) % 2 = 1)) (decide (a * (hi * B + lo) % 2 ^ (s - 1) ≠ 0)) r = dd at *
    generalize interestP (a * (hi * B + lo) / 2 ^ s) a (decide (a * (hi * B + lo) / 2 ^ (s - 1) % 2 = 1)) (decide (a * (hi * B + lo) % 2 ^ (s - 1) ≠ 0)) r = ii at *
    clear hX hR
    refine check_yes a hi lo exp r w s (62 + s) _ ii dd _ hw hs1 hs2 he1 he2 h62 (fun _ => by omega) E bX bL (fun _ => rfl) A (eq_true (by rw [cmpN_lt hlt]; decide)) (fun _ => haB) (lt100 (word_lt5 a haB)) (lt100' bs) ?_ ?_
    · exact fun wx bx lx hx ho => around_any s dd.natAbs dd r wx ho hs2 bX4 dl (fun h => by cases h) (fun _ => by omega) dc
    · intro wx bx lx hx ho
      refine around_any s ii.natAbs ii r wx ho hs2 ?_ il (fun h => ?_) (fun h => ?_) ic
      · generalize a * (hi * B + lo) = X at *
        generalize a * 2 ^ s = Y at *
        split <;> omega
      · have hlt := of_decide_eq_true h
        rw [if_pos hlt]
        have := i1 hlt
        exact ⟨by omega, by omega⟩
      · have := i2 (of_decide_eq_false h)
        omega
  · have hge : ¬ a * (hi * B + lo) < 1 * 2 ^ (62 + s) := by rw [limit_eq]; exact fun h => hq ((Nat.div_lt_iff_lt_mul hp).2 h)
    have A := accr_big_any a hi lo exp r w ha h1 h2 s hs hs1 hs2 hq
    refine check_no a hi lo exp r w s (62 + s) _ _ hw hs1 hs2 he1 he2 h62 (fun _ => by omega) E bX bL (fun _ => rfl) A (eq_false ?_)
    generalize a * (hi * B + lo) = X at *
    generalize 1 * 2 ^ (62 + s) = Y at *
    unfold cmpN
    rw [if_neg hge]
    split <;> decide
end Go.Proofs.Ybulkanxo
