/-
  LawS1978BSchedule: heaps, plain. No Go in sight.
-/
import Derived.Test.YbulkanycSched1
namespace Go.Proofs.Ybulkanyc
set_option linter.unusedVariables false

theorem getD_set (A : List Nat) (i j x : Nat) (hi : i < A.length) : (A.set i x).getD j 0 = if j = i then x else A.getD j 0 := by
  by_cases h : j = i
  · subst h; simp [List.getD, hi]
  · rw [if_neg h]
    simp [List.getD, Ne.symm h]
def swp (A : List Nat) (i j : Nat) : List Nat := (A.set i (A.getD j 0)).set j (A.getD i 0)
theorem swp_length (A : List Nat) (i j : Nat) : (swp A i j).length = A.length := by simp [swp]
theorem swp_get (A : List Nat) (i j k : Nat) (hi : i < A.length) (hj : j < A.length) : (swp A i j).getD k 0 = if k = j then A.getD i 0 else if k = i then A.getD j 0 else A.getD k 0 := by
  unfold swp
  rw [getD_set _ _ _ _ (by simpa using hj), getD_set _ _ _ _ hi]
theorem swp_perm (A : List Nat) (i j : Nat) (hi : i < A.length) (hj : j < A.length) : (swp A i j).Perm A := by
  have e1 : A.getD i 0 = A[i] := by simp [List.getD, hi]
  have e2 : A.getD j 0 = A[j] := by simp [List.getD, hj]
  unfold swp
  rw [e1, e2]
  exact List.set_set_perm hi hj

/-- A strict order, as a test. -/
structure Str (r : Nat → Nat → Bool) : Prop where
  asymm : ∀ a b, r a b = true → r b a = false
  neg : ∀ a b c, r a b = false → r b c = false → r a c = false
def Heap (r : Nat → Nat → Bool) (A : List Nat) : Prop := ∀ j, 0 < j → j < A.length → r (A.getD j 0) (A.getD ((j - 1) / 2) 0) = false
structure Up (r : Nat → Nat → Bool) (A : List Nat) (i : Nat) : Prop where
  lt : i < A.length
  ok : ∀ j, 0 < j → j < A.length → j ≠ i → r (A.getD j 0) (A.getD ((j - 1) / 2) 0) = false
  gp : ∀ j, 0 < j → j < A.length → (j - 1) / 2 = i → 0 < i → r (A.getD j 0) (A.getD ((i - 1) / 2) 0) = false
theorem Up.start {r : Nat → Nat → Bool} {A : List Nat} (h : Heap r A) (x : Nat) : Up r (A ++ [x]) A.length := by
  have e : ∀ j, j < A.length → (A ++ [x]).getD j 0 = A.getD j 0 := by
    intro j hj
    simp [List.getD, List.getElem?_append, hj]
  refine ⟨by simp, ?_, ?_⟩
  · intro j h0 h1 h2
    have hj : j < A.length := by simp at h1; omega
    rw [e j hj, e _ (by omega)]
    exact h j h0 hj
  · intro j h0 h1 h2 h3
    simp at h1
    omega
theorem Up.done0 {r : Nat → Nat → Bool} {A : List Nat} (h : Up r A 0) : Heap r A := fun j h0 h1 => h.ok j h0 h1 (by omega)
theorem Up.done {r : Nat → Nat → Bool} {A : List Nat} {i : Nat} (h : Up r A i) (hr : r (A.getD i 0) (A.getD ((i - 1) / 2) 0) = false) : Heap r A := by
  intro j h0 h1
  by_cases e : j = i
  · subst e; exact hr
  · exact h.ok j h0 h1 e
theorem Up.step {r : Nat → Nat → Bool} (S : Str r) {A : List Nat} {i : Nat} (h : Up r A i) (h0 : 0 < i) (hr : r (A.getD i 0) (A.getD ((i - 1) / 2) 0) = true) : Up r (swp A i ((i - 1) / 2)) ((i - 1) / 2) := by
  have hl := h.lt
  obtain ⟨u, hu⟩ : ∃ u, u = (i - 1) / 2 := ⟨_, rfl⟩
  rw [← hu] at hr ⊢
  have hul : u < A.length := by omega
  have g := fun k => swp_get A i u k hl hul
  refine ⟨by rw [swp_length]; exact hul, ?_, ?_⟩
  · intro j j0 j1 j2
    rw [swp_length] at j1
    rw [g, g]
    rw [if_neg j2]
    by_cases e1 : j = i
    · subst e1
      rw [if_pos rfl, if_pos hu.symm]
      exact S.asymm _ _ hr
    · rw [if_neg e1]
      by_cases e2 : (j - 1) / 2 = u
      · rw [if_pos e2]
        have := h.ok j j0 j1 e1
        rw [e2] at this
        exact S.neg _ _ _ this (S.asymm _ _ hr)
      · rw [if_neg e2]
        by_cases e3 : (j - 1) / 2 = i
        · rw [if_pos e3]
          have := h.gp j j0 j1 e3 h0
          rw [← hu] at this
          exact this
        · rw [if_neg e3]
          exact h.ok j j0 j1 e1
  · intro j j0 j1 j2 u0
    rw [swp_length] at j1
    rw [g, g]
    have n1 : (u - 1) / 2 ≠ u := by omega
    have n2 : (u - 1) / 2 ≠ i := by omega
    rw [if_neg n1, if_neg n2]
    have hpu := h.ok u u0 hul (by omega)
    have n3 : j ≠ u := by omega
    rw [if_neg n3]
    by_cases e1 : j = i
    · rw [if_pos e1]; exact hpu
    · rw [if_neg e1]
      have := h.ok j j0 j1 e1
      rw [j2] at this
      exact S.neg _ _ _ this hpu

/-- Events by their numbers: the time, then the number. -/
def ltE (A : Nat → Int) (a b : Nat) : Bool := bf (A a) ((a : Int) + 1) (A b) ((b : Int) + 1)
theorem strE (A : Nat → Int) : Str (ltE A) := by
  constructor
  · intro a b h
    unfold ltE bf at *
    simp at h ⊢
    omega
  · intro a b c h1 h2
    unfold ltE bf at *
    simp at h1 h2 ⊢
    omega
theorem str_of (r : Nat → Nat → Bool) (S : Str r) (f : Nat → Nat) : Str (fun a b => r (f a) (f b)) := ⟨fun a b => S.asymm _ _, fun a b c => S.neg _ _ _⟩
theorem Heap.congr {r r' : Nat → Nat → Bool} {A : List Nat} (h : Heap r A) (e : ∀ a b, a ∈ A → b ∈ A → r' a b = r a b) : Heap r' A := by
  intro j h0 h1
  have m : ∀ k, k < A.length → A.getD k 0 ∈ A := by
    intro k hk
    have : A.getD k 0 = A[k] := by simp [List.getD, hk]
    rw [this]
    exact List.getElem_mem hk
  rw [e _ _ (m _ h1) (m _ (by omega))]
  exact h j h0 h1
end Go.Proofs.Ybulkanyc
