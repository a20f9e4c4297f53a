/-
  zzs1977around says yes where the plain law says so.
-/
import Derived.Test.YbulkanxoAround
namespace Go.Proofs.Ybulkanxo
open Go.RowKit
set_option linter.unusedVariables false

theorem cmpN_le {a b : Nat} (h : a ≤ b) : cmpN a b ≤ 0 := by unfold cmpN; split; decide; rw [if_neg (by omega)]; decide
theorem cmpN_le' {a b : Nat} (h : a ≤ b) : ¬ 0 < cmpN a b := by have := cmpN_le h; omega
theorem cmpN_zero {a b : Nat} : cmpN a b = 0 ↔ a = b := by
  unfold cmpN
  constructor
  · intro h
    split at h
    · cases h
    · split at h
      · cases h
      · omega
  · intro h; subst h; simp
theorem lt_b4 (u s : Nat) (hu : u < B) (hs : s ≤ 191) : Lt100 (u * 2 ^ s) := by
  apply lt100
  have h1 : (2 : Nat) ^ s ≤ 2 ^ 191 := Nat.pow_le_pow_right (by decide) hs
  have h2 : u * 2 ^ s ≤ B * 2 ^ 191 := Nat.mul_le_mul (by omega) h1
  have h3 : B * 2 ^ 191 < B ^ 5 := by unfold B; decide
  omega

theorem around_any {g : Bool} {lo hi bx : Nat} {neg : Bool} {v : Nat} (s M : Nat) (m r : Int) (w : World) (hx : OwnG g w lo hi bx neg v) (hs : s ≤ 191) (hv : v < B ^ 4) (hM : M ≤ 4611686018427387905)
    (hn : neg = true → 0 < v ∧ m = -(M : Int)) (hq : neg = false → m = (M : Int)) (hC : Core v (2 ^ s) M r) :
    Calls Yba.prog 17 #[.pointer (some ⟨bx, 0, none⟩), .int .u64 (s : Int), .int .i64 m, .int .i64 r] w fun e w' => .returned (.bool true) = e ∧ Below w.heap.size w w' := by
  have hMB : M < B := by unfold B; omega
  have bv : Lt100 v := lt100 (by unfold B at *; omega)
  have bM : Lt100 M := lt100 (word_lt5 M hMB)
  have bv2 : Lt100 (v * 2 ^ 1) := lt100 (by unfold B at *; omega)
  have bM2 : Lt100 (M * 2 ^ 1) := lt100 (word_lt5 _ (by unfold B at *; omega))
  have c1 : Lt100 (M * 2 ^ 1 + 1) := lt100 (word_lt5 _ (by unfold B at *; omega))
  have c2 : Lt100 (M * 2 ^ 1 - 1) := lt100 (word_lt5 _ (by unfold B at *; omega))
  have d1 := lt_b4 (M * 2 ^ 1 + 1) s (by unfold B at *; omega) hs
  have d2 := lt_b4 (M * 2 ^ 1 - 1) s (by unfold B at *; omega) hs
  have e1 := lt_b4 M s hMB hs
  have e2 := lt_b4 (M + 1) s (by unfold B at *; omega) hs
  have e3 : Lt100 (M + 1) := lt100 (word_lt5 _ (by unfold B at *; omega))
  have SG : Calls Yba.prog 39 #[.pointer (some ⟨bx, 0, none⟩)] w fun e w' => .returned (.int .i64 (if v = 0 then 0 else if neg then -1 else 1)) = e ∧ w = w' :=
    (c_sign w hx bv).mono fun _ _ ⟨a, b⟩ => ⟨a.symm, b.symm⟩
  have hp : Pre (if v = 0 then 0 else if neg then -1 else 1) m M := by
    cases neg
    · refine .inl ⟨?_, ?_, ?_⟩
      · by_cases h0 : v = 0 <;> simp [h0]
      · rw [hq rfl]; exact eq_false (by omega)
      · rw [hq rfl, IntKind.wrap_u64]; omega
    · obtain ⟨h0, hm⟩ := hn rfl
      have h0' : ¬ v = 0 := by omega
      by_cases hM0 : M = 0
      · exact .inr (.inr ⟨by simp [h0'], eq_false (by omega), eq_false (by omega), by rw [hm, IntKind.wrap_u64]; omega⟩)
      · refine .inr (.inl ⟨by simp [h0'], eq_false (by omega), eq_true (by omega), _, rfl, ?_⟩)
        rw [hm, IntKind.wrap_u64, IntKind.wrap_u64]; omega
  clear hv
  by_cases hr : r = 2
  · obtain ⟨f1, f2⟩ := hC.1 hr
    exact around_down s M m r _ w (hid hx) hs (hid SG) (hid hp) bv (fun _ => hMB) bM (by simp [hr]) e1 e3 e2 _ _ (fun _ => rfl) (fun _ => rfl) (eq_true (cmpN_le f1)) (eq_true (by rw [cmpN_lt f2]; decide))
  · obtain ⟨f1, f2, f3, f4⟩ := hC.2 hr
    have m1 : M * 2 ^ 1 = 2 * M := by omega
    have m2 : v * 2 ^ 1 = 2 * v := by omega
    rw [m1] at c1 c2 d1 d2 bM2
    rw [m2] at bv2
    refine around_half s M m r _ w (hid hx) hs (hid SG) (hid hp) bv (fun _ => hMB) bM (by simp [hr]) (by rw [m2]; exact bv2) (by rw [m1]; exact bM2) (by rw [m1]; exact c1) (by rw [m1]; exact d1) (by rw [m1]; exact c2) (by rw [m1]; exact d2)
      (cmpN ((2 * M - 1) * 2 ^ s) (2 * v)) (cmpN (2 * v) ((2 * M + 1) * 2 ^ s)) (fun _ _ => by rw [m1, m2]) (fun _ => by rw [m1, m2]) (decide (r = 0)) (decide (0 < M ∧ (2 * M - 1) * 2 ^ s = 2 * v)) (decide (2 * v = (2 * M + 1) * 2 ^ s)) ?_ (fun _ h => eq_true (cmpN_le (f1 h))) ?_ ?_ (eq_false (cmpN_le' f3)) ?_ ?_ ?_
    · by_cases h0 : r = 0 <;> simp [h0]
    · intro _ h0
      have := @cmpN_zero ((2 * M - 1) * 2 ^ s) (2 * v)
      rw [Bool.eq_iff_iff]
      simp only [beq_iff_eq, decide_eq_true_eq]
      rw [this]
      exact ⟨fun h => ⟨h0, h⟩, fun h => h.2⟩
    · intro _ h0
      simp [h0]
    · intro _ h0
      rw [cmpN_lt (f2 (by simpa using h0))]
      exact eq_true (by decide)
    · have := @cmpN_zero (2 * v) ((2 * M + 1) * 2 ^ s)
      rw [Bool.eq_iff_iff]
      simp only [beq_iff_eq, decide_eq_true_eq]
      exact this
    · intro _ h0 h1
      have h0' : r ≠ 0 := by simpa using h0
      have := f4 h0' (by
        rw [Bool.or_eq_true] at h1
        rcases h1 with h | h
        · exact .inl (of_decide_eq_true h)
        · exact .inr (of_decide_eq_true h))
      omega
end Go.Proofs.Ybulkanxo
