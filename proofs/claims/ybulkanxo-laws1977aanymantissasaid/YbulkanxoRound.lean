/-
  THE PLAIN LAW OF THE ROUNDINGS. No Go in sight. p stands for 2^s.
-/
namespace Go.Proofs.Ybulkanxo

/-- away: does a cut magnitude step away from zero? (0: half up, 2: down, any other: half even) -/
def awayP (r half : Int) (odd : Bool) : Bool := if r = 2 ∨ half < 0 then false else (decide (0 < half) || decide (r = 0) || odd)
def roundP (q : Nat) (half r : Int) : Nat := if awayP r half (decide (q % 2 = 1)) then q + 1 else q
/-- What the cut left, against half a unit. -/
def halfP (cut more : Bool) : Int := if cut then (if more then 1 else 0) else -1

/-- m is v / p rounded in r: what the check asks. -/
def Core (v p m : Nat) (r : Int) : Prop :=
  (r = 2 → m * p ≤ v ∧ v < (m + 1) * p) ∧
  (r ≠ 2 → (0 < m → (2 * m - 1) * p ≤ 2 * v) ∧ (r = 0 → 2 * v < (2 * m + 1) * p) ∧ 2 * v ≤ (2 * m + 1) * p ∧
    (r ≠ 0 → ((0 < m ∧ (2 * m - 1) * p = 2 * v) ∨ 2 * v = (2 * m + 1) * p) → m % 2 = 0))

theorem core_of (v p Q f : Nat) (half r : Int) (hp : 0 < p) (hv : v = Q * p + f) (hf : f < p) (h1 : half < 0 → 2 * f < p) (h2 : half = 0 → 2 * f = p) (h3 : 0 < half → p < 2 * f) :
    Core v p (roundP Q half r) r := by
  have e1 : (2 * Q + 1) * p = 2 * (Q * p) + p := by rw [Nat.add_mul, Nat.mul_assoc, Nat.one_mul]
  have e2 : (Q + 1) * p = Q * p + p := by rw [Nat.add_mul, Nat.one_mul]
  have e3 : (2 * (Q + 1) + 1) * p = 2 * (Q * p) + 3 * p := by rw [show 2 * (Q + 1) + 1 = 2 * Q + 3 by omega, Nat.add_mul, Nat.mul_assoc]
  have e4 : (2 * (Q + 1) - 1) * p = 2 * (Q * p) + p := by rw [show 2 * (Q + 1) - 1 = 2 * Q + 1 by omega]; exact e1
  have e5 : 0 < Q → (2 * Q - 1) * p + p = 2 * (Q * p) := by
    intro hQ
    have : (2 * Q - 1 + 1) * p = 2 * (Q * p) := by rw [Nat.sub_add_cancel (by omega), Nat.mul_assoc]
    rw [Nat.add_mul, Nat.one_mul] at this
    exact this
  have e6 : (Q + 1 + 1) * p = Q * p + 2 * p := by rw [show Q + 1 + 1 = Q + 2 by omega, Nat.add_mul]
  by_cases hr2 : r = 2
  · have hround : roundP Q half r = Q := by simp [roundP, awayP, hr2]
    rw [hround]
    refine ⟨fun _ => ?_, fun h => absurd hr2 h⟩
    rw [e2]; omega
  · rcases Int.lt_trichotomy half 0 with h | h | h
    · have hf2 := h1 h
      have hround : roundP Q half r = Q := by simp [roundP, awayP, h]
      rw [hround]
      refine ⟨fun h => absurd h hr2, fun _ => ?_⟩
      rw [e1]
      refine ⟨fun hQ => by have := e5 hQ; omega, fun _ => by omega, by omega, fun _ hh => ?_⟩
      rcases hh with ⟨hQ, hh⟩ | hh
      · have := e5 hQ; omega
      · omega
    · have hf2 := h2 h
      by_cases hr0 : r = 0
      · have hround : roundP Q half r = Q + 1 := by simp [roundP, awayP, h, hr0]
        rw [hround]
        refine ⟨fun h => absurd h hr2, fun _ => ?_⟩
        rw [e3, e4]
        exact ⟨fun _ => by omega, fun _ => by omega, by omega, fun h => absurd hr0 h⟩
      · by_cases hodd : Q % 2 = 1
        · have hround : roundP Q half r = Q + 1 := by simp [roundP, awayP, h, hr0, hr2, hodd]
          rw [hround]
          refine ⟨fun h => absurd h hr2, fun _ => ?_⟩
          rw [e3, e4]
          exact ⟨fun _ => by omega, fun h => absurd h hr0, by omega, fun _ _ => by omega⟩
        · have hround : roundP Q half r = Q := by simp [roundP, awayP, h, hr0, hr2, hodd]
          rw [hround]
          refine ⟨fun h => absurd h hr2, fun _ => ?_⟩
          rw [e1]
          exact ⟨fun hQ => by have := e5 hQ; omega, fun h => absurd h hr0, by omega, fun _ _ => by omega⟩
    · have hf2 := h3 h
      have hround : roundP Q half r = Q + 1 := by
        have h' : ¬ half < 0 := by omega
        simp [roundP, awayP, h, hr2, h']
      rw [hround]
      refine ⟨fun h => absurd h hr2, fun _ => ?_⟩
      rw [e3, e4]
      refine ⟨fun _ => by omega, fun _ => by omega, by omega, fun _ hh => ?_⟩
      rcases hh with ⟨_, hh⟩ | hh <;> omega

/-- The debt and the interest as the Go text reckons them. -/
def debtP (q : Nat) (cut more : Bool) (r : Int) : Int := (roundP q (halfP cut more) r : Nat)
def interestP (q a : Nat) (cut more : Bool) (r : Int) : Int :=
  if a ≤ q then (roundP (q - a) (halfP cut more) r : Nat) else if !cut && !more then -((a - q : Nat) : Int) else -((roundP (a - q - 1) (-(halfP cut more)) r : Nat) : Int)

/-- cut and more say where the rest lies. -/
structure Rest (f p : Nat) (cut more : Bool) : Prop where
  lt : f < p
  lo : cut = false → 2 * f < p
  mid : cut = true → more = false → 2 * f = p
  hi : cut = true → more = true → p < 2 * f
  nil : cut = false → more = false → f = 0
  pos : cut = true ∨ more = true → 0 < f
theorem Rest.half {f p : Nat} {cut more : Bool} (h : Rest f p cut more) : (halfP cut more < 0 → 2 * f < p) ∧ (halfP cut more = 0 → 2 * f = p) ∧ (0 < halfP cut more → p < 2 * f) := by
  cases cut <;> cases more <;> simp [halfP]
  · exact h.lo rfl
  · exact h.lo rfl
  · exact h.mid rfl rfl
  · exact h.hi rfl rfl

theorem debt_core (X p q f : Nat) (cut more : Bool) (r : Int) (hp : 0 < p) (hX : X = q * p + f) (hR : Rest f p cut more) : Core X p (debtP q cut more r).natAbs r ∧ 0 ≤ debtP q cut more r := by
  obtain ⟨h1, h2, h3⟩ := hR.half
  have := core_of X p q f (halfP cut more) r hp hX hR.lt h1 h2 h3
  unfold debtP
  rw [Int.natAbs_natCast]
  exact ⟨this, Int.natCast_nonneg _⟩

theorem interest_core (X p q f a : Nat) (cut more : Bool) (r : Int) (hp : 0 < p) (hX : X = q * p + f) (hR : Rest f p cut more) :
    Core (if X < a * p then a * p - X else X - a * p) p (interestP q a cut more r).natAbs r ∧ (X < a * p → interestP q a cut more r ≤ 0) ∧ (¬ X < a * p → 0 ≤ interestP q a cut more r) := by
  obtain ⟨h1, h2, h3⟩ := hR.half
  have hlt := hR.lt
  unfold interestP
  by_cases hqa : a ≤ q
  · obtain ⟨d, rfl⟩ : ∃ d, q = a + d := ⟨q - a, by omega⟩
    have e : (a + d) * p = a * p + d * p := Nat.add_mul _ _ _
    rw [if_pos hqa, if_neg (by rw [hX, e]; omega), Int.natAbs_natCast, show a + d - a = d by omega]
    refine ⟨core_of _ p d f (halfP cut more) r hp (by rw [hX, e]; omega) hlt h1 h2 h3, fun h => ?_, fun _ => Int.natCast_nonneg _⟩
    rw [hX, e] at h; omega
  · obtain ⟨d, rfl⟩ : ∃ d, a = q + 1 + d := ⟨a - q - 1, by omega⟩
    have e : (q + 1 + d) * p = q * p + p + d * p := by rw [Nat.add_mul, Nat.add_mul, Nat.one_mul]
    have hXa : X < (q + 1 + d) * p := by rw [hX, e]; omega
    rw [if_neg hqa, if_pos hXa]
    by_cases hz : (!cut && !more) = true
    · rw [if_pos hz]
      have hc : cut = false := by cases cut; rfl; simp at hz
      have hm : more = false := by cases more; rfl; simp at hz
      have hf0 := hR.nil hc hm
      have e2 : q + 1 + d - q = d + 1 := by omega
      rw [e2, Int.natAbs_neg, Int.natAbs_natCast]
      have hr : roundP (d + 1) (-1) r = d + 1 := by unfold roundP awayP; rw [if_pos (Or.inr (by decide))]; simp
      have := core_of ((q + 1 + d) * p - X) p (d + 1) 0 (-1) r hp (by rw [hX, e, Nat.add_mul, Nat.one_mul]; omega) hp (fun _ => by omega) (fun h => absurd h (by decide)) (fun h => absurd h (by decide))
      rw [hr] at this
      exact ⟨this, fun _ => by omega, fun h => absurd hXa h⟩
    · rw [if_neg hz]
      have hfp : 0 < f := hR.pos (by cases cut <;> cases more <;> simp_all)
      have e2 : q + 1 + d - q - 1 = d := by omega
      rw [e2, Int.natAbs_neg, Int.natAbs_natCast]
      refine ⟨core_of _ p d (p - f) (-(halfP cut more)) r hp (by rw [hX, e]; omega) (by omega) (fun h => ?_) (fun h => ?_) (fun h => ?_), fun _ => by omega, fun h => absurd hXa h⟩
      · have := h3 (by omega); omega
      · have := h2 (by omega); omega
      · have := h1 (by omega); omega
end Go.Proofs.Ybulkanxo
