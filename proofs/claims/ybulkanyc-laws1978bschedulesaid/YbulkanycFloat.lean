/-
  float64 of small whole numbers: order, maximum. No Go in sight but the model's own words.
-/
import Derived.Test.YbulkanycMem
namespace Go.Proofs.Ybulkanyc
open Go.RowKit
set_option linter.unusedVariables false
open Ieee

theorem cut_zero (neg : Bool) (n : Nat) : Toward.even.cut neg n 0 = n := by
  simp [Toward.cut, Nat.mod_one]
theorem log_le (mag : Nat) (h0 : 0 < mag) (h1 : mag < 2 ^ 53) : mag.log2 ≤ 52 := by
  have := (Nat.log2_lt (by omega)).2 h1
  omega
theorem bounds (mag : Nat) (h0 : 0 < mag) (h1 : mag < 2 ^ 53) : 2 ^ 52 ≤ mag * 2 ^ (52 - mag.log2) ∧ mag * 2 ^ (52 - mag.log2) < 2 ^ 53 := by
  have hL := log_le mag h0 h1
  have a1 : 2 ^ mag.log2 ≤ mag := Nat.log2_self_le (by omega)
  have a2 : mag < 2 ^ (mag.log2 + 1) := Nat.lt_log2_self
  have e1 : 2 ^ mag.log2 * 2 ^ (52 - mag.log2) = 2 ^ 52 := by rw [← Nat.pow_add]; congr 1; omega
  have e2 : 2 ^ (mag.log2 + 1) * 2 ^ (52 - mag.log2) = 2 ^ 53 := by rw [← Nat.pow_add]; congr 1; omega
  constructor
  · rw [← e1]; exact Nat.mul_le_mul_right _ a1
  · rw [← e2]; exact Nat.mul_lt_mul_of_pos_right a2 (Nat.two_pow_pos _)
theorem nearest_pos (neg : Bool) (mag : Nat) (h0 : 0 < mag) (h1 : mag < 2 ^ 53) :
    double.nearest neg mag 0 = double.word neg ((mag.log2 + 1022) * 2 ^ 52 + mag * 2 ^ (52 - mag.log2)) := by
  have hL : mag.log2 ≤ 52 := by
    have := (Nat.log2_lt (by omega)).2 h1
    omega
  unfold Format.nearest
  rw [if_neg (by omega)]
  have e1 : max ((0 : Int) + mag.log2 - double.fractionBits) double.leastPlace = (mag.log2 : Int) - 52 := by
    show max ((0 : Int) + mag.log2 - 52) (2 - 2 ^ 10 - 52) = _
    omega
  have e2 : ((0 : Int) - ((mag.log2 : Int) - 52)).toNat = 52 - mag.log2 := by omega
  have e3 : (((mag.log2 : Int) - 52) - 0).toNat = 0 := by omega
  have e4 : (((mag.log2 : Int) - 52) - double.leastPlace).toNat = mag.log2 + 1022 := by
    show (((mag.log2 : Int) - 52) - (2 - 2 ^ 10 - 52)).toNat = _
    omega
  simp only [e1, e2, e3, e4, cut_zero, Nat.shiftLeft_eq]
  have hb := bounds mag h0 h1
  have e5 : double.binade = 2 ^ 52 := rfl
  have e6 : double.infRung = 2047 * 2 ^ 52 := rfl
  rw [e5, e6, Nat.min_eq_left]
  omega

/-- What such a word stands for. -/
theorem read_pos (neg : Bool) (mag : Nat) (h0 : 0 < mag) (h1 : mag < 2 ^ 53) :
    double.read (double.nearest neg mag 0) = .number neg (mag * 2 ^ (52 - mag.log2)) ((mag.log2 : Int) - 52) := by
  rw [nearest_pos neg mag h0 h1]
  have hb := bounds mag h0 h1
  have hL := log_le mag h0 h1
  have e5 : double.binade = 2 ^ 52 := rfl
  have e6 : double.infRung = 2047 * 2 ^ 52 := rfl
  have e7 : double.signWeight = 2 ^ 63 := rfl
  have e8 : double.leastPlace = -1074 := rfl
  generalize mag.log2 = L at *
  generalize mag * 2 ^ (52 - L) = K at *
  have hr : (L + 1022) * 2 ^ 52 + K < 2 ^ 63 := by omega
  have f1 : (double.word neg ((L + 1022) * 2 ^ 52 + K)) % double.signWeight = (L + 1022) * 2 ^ 52 + K := by
    unfold Format.word
    rw [e7]
    split <;> omega
  have f2 : (double.word neg ((L + 1022) * 2 ^ 52 + K) / double.signWeight % 2 == 1) = neg := by
    unfold Format.word
    rw [e7]
    cases neg
    · have : ((L + 1022) * 2 ^ 52 + K) / 2 ^ 63 = 0 := Nat.div_eq_of_lt hr
      simp [this]
    · have : (2 ^ 63 + ((L + 1022) * 2 ^ 52 + K)) / 2 ^ 63 = 1 := by omega
      simp [this]
  unfold Format.read
  simp only [f1, f2, e5, e6, e8]
  rw [if_neg (by omega), if_pos (by omega)]
  have g1 : ((L + 1022) * 2 ^ 52 + K) / 2 ^ 52 = L + 1023 := by omega
  have g2 : ((L + 1022) * 2 ^ 52 + K) % 2 ^ 52 = K - 2 ^ 52 := by omega
  rw [g1, g2]
  have g3 : 2 ^ 52 + (K - 2 ^ 52) = K := by omega
  have g4 : (-1074 : Int) + ((L + 1023 - 1 : Nat) : Int) = (L : Int) - 52 := by omega
  rw [g3, g4]
theorem read_zero : double.read (double.nearest false 0 0) = .number false 0 (-1074) := by decide

/-- float64(x) -/
def fl (x : Int) : Nat := FloatKind.f64.nearest x

theorem fl_read (x : Int) (h : x.natAbs < 2 ^ 53) : ∃ (M : Nat) (i : Int), double.read (fl x) = .number (decide (x < 0)) M i ∧ i ≤ 0 ∧ ∀ base : Int, base ≤ i → signed (decide (x < 0)) M (i - base).toNat = x * 2 ^ (-base).toNat := by
  by_cases h0 : x = 0
  · subst h0
    refine ⟨0, -1074, ?_, by omega, fun base hb => ?_⟩
    · exact read_zero
    · simp [signed]
  · have hp : 0 < x.natAbs := by omega
    have hL := log_le x.natAbs hp h
    refine ⟨_, _, read_pos (decide (x < 0)) x.natAbs hp h, by omega, fun base hb => ?_⟩
    have e : x.natAbs * 2 ^ (52 - x.natAbs.log2) * 2 ^ (((x.natAbs.log2 : Int) - 52) - base).toNat = x.natAbs * 2 ^ (-base).toNat := by
      rw [Nat.mul_assoc, ← Nat.pow_add]
      congr 2
      omega
    unfold signed
    rw [Nat.shiftLeft_eq, e]
    by_cases hn : x < 0
    · rw [if_pos (by simpa using hn)]
      have hx : x = -(x.natAbs : Int) := by omega
      generalize x.natAbs = n at hx ⊢
      rw [hx]
      simp [Int.neg_mul]
    · rw [if_neg (by simpa using hn)]
      have hx : x = (x.natAbs : Int) := by omega
      generalize x.natAbs = n at hx ⊢
      rw [hx]
      simp

theorem fl_order (x y : Int) (hx : x.natAbs < 2 ^ 53) (hy : y.natAbs < 2 ^ 53) : FloatKind.f64.format.order (fl x) (fl y) = some (if x < y then .lt else if x = y then .eq else .gt) := by
  obtain ⟨M, i, h1, h2, h3⟩ := fl_read x hx
  obtain ⟨N, j, k1, k2, k3⟩ := fl_read y hy
  show (double.read (fl x)).order (double.read (fl y)) = _
  rw [h1, k1]
  simp only [Datum.order]
  rw [h3 _ (by omega), k3 _ (by omega)]
  have hpos : (0 : Int) < 2 ^ (-(min i j)).toNat := Int.pow_pos (by decide)
  generalize (2 : Int) ^ (-(min i j)).toNat = q at hpos
  congr 1
  show (if x * q < y * q then Ordering.lt else if x * q = y * q then .eq else .gt) = _
  have a1 : x * q < y * q ↔ x < y := Int.mul_lt_mul_right hpos
  have a2 : x * q = y * q ↔ x = y := Int.mul_eq_mul_right_iff (by omega)
  simp only [a1, a2]

/-- max of two such. -/
theorem fl_max (P : Program) (x y : Int) (t : TypeId) (hx : x.natAbs < 2 ^ 53) (hy : y.natAbs < 2 ^ 53) (w : World) :
    (Builtin.max_ #[t, t] t #[.float .f64 (fl x), .float .f64 (fl y)]).run P w = .ok (.float .f64 (fl (if x < y then y else x))) w := by
  have ho := fl_order x y hx hy
  simp only [Builtin.max_, List.foldlM]
  by_cases h : x < y
  · rw [if_pos h] at ho
    rw [if_pos h]
    simp [Builtin.max2, ho]
  · rw [if_neg h] at ho
    rw [if_neg h]
    by_cases he : x = y
    · subst he
      rw [if_pos rfl] at ho
      simp [Builtin.max2, ho]
    · rw [if_neg he] at ho
      simp [Builtin.max2, ho]
end Go.Proofs.Ybulkanyc
