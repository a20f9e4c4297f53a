/-
  THE PLAIN ARITHMETIC: numbers as lists of words, the lowest first. No Go in sight.
-/
namespace Go.Proofs.Ybulkanxo

/-- The base: 2^64. -/
def B : Nat := 18446744073709551616
theorem B_pos : 0 < B := by decide
/-- The number that a list of words stands for. -/
def val : List Nat → Nat
  | [] => 0
  | d :: ds => d + B * val ds
theorem val_nil : val [] = 0 := rfl
theorem val_cons (d : Nat) (ds : List Nat) : val (d :: ds) = d + B * val ds := rfl
theorem val_append (a b : List Nat) : val (a ++ b) = val a + B ^ a.length * val b := by
  induction a with
  | nil => simp [val]
  | cons d ds ih => rw [List.cons_append, val_cons, val_cons, ih, List.length_cons, Nat.pow_succ, Nat.mul_add, Nat.add_assoc]; congr 2; rw [← Nat.mul_assoc, Nat.mul_comm B]
theorem val_snoc (a : List Nat) (d : Nat) : val (a ++ [d]) = val a + B ^ a.length * d := by rw [val_append]; simp [val]
theorem val_replicate (n : Nat) : val (List.replicate n 0) = 0 := by
  induction n with
  | zero => rfl
  | succ n ih => rw [List.replicate_succ, val_cons, ih]; simp
theorem take_succ_snoc (l : List Nat) (i : Nat) (h : i < l.length) : l.take (i + 1) = l.take i ++ [l.getD i 0] := by
  rw [List.take_succ_eq_append_getElem h]; simp [h]
theorem val_take_succ (l : List Nat) (i : Nat) (h : i < l.length) : val (l.take (i + 1)) = val (l.take i) + B ^ i * l.getD i 0 := by
  rw [take_succ_snoc l i h, val_snoc, List.length_take, Nat.min_eq_left (Nat.le_of_lt h)]

/-- Every word is below the base. -/
def Words (l : List Nat) : Prop := ∀ d ∈ l, d < B
theorem Words.getD {l : List Nat} (h : Words l) (i : Nat) : l.getD i 0 < B := by
  by_cases hi : i < l.length
  · have : l.getD i 0 = l[i] := by simp [hi]
    rw [this]; exact h _ (List.getElem_mem hi)
  · have : l.getD i 0 = 0 := by simp [Nat.le_of_not_lt hi]
    rw [this]; exact B_pos
theorem Words.nil : Words [] := by intro d h; cases h
theorem Words.append {a b : List Nat} (ha : Words a) (hb : Words b) : Words (a ++ b) := by
  intro d h; rcases List.mem_append.1 h with h | h
  · exact ha d h
  · exact hb d h
theorem Words.snoc {a : List Nat} (ha : Words a) {d : Nat} (hd : d < B) : Words (a ++ [d]) := ha.append (by intro x h; simp at h; omega)
theorem Words.take {a : List Nat} (ha : Words a) (n : Nat) : Words (a.take n) := fun d h => ha d (List.mem_of_mem_take h)
theorem Words.drop {a : List Nat} (ha : Words a) (n : Nat) : Words (a.drop n) := fun d h => ha d (List.mem_of_mem_drop h)
theorem Words.set {a : List Nat} (ha : Words a) (i d : Nat) (hd : d < B) : Words (a.set i d) := by
  intro x h
  rcases List.mem_or_eq_of_mem_set h with h | h
  · exact ha x h
  · rw [h]; exact hd
theorem Words.replicate (n : Nat) : Words (List.replicate n 0) := by
  intro d h; rw [(List.mem_replicate.1 h).2]; exact B_pos
theorem val_lt {l : List Nat} (h : Words l) : val l < B ^ l.length := by
  induction l with
  | nil => simp [val]
  | cons d ds ih =>
    have h1 : d < B := h d (by simp)
    have h2 := ih (fun x hx => h x (by simp [hx]))
    rw [val_cons, List.length_cons, Nat.pow_succ]
    have : B * val ds + B ≤ B ^ ds.length * B := by
      rw [Nat.mul_comm (B ^ ds.length)]
      have : B * (val ds + 1) ≤ B * B ^ ds.length := Nat.mul_le_mul_left _ h2
      rw [Nat.mul_add, Nat.mul_one] at this
      exact this
    omega

/-! ### one step of a sum, of a difference -/
theorem sum_step (v x y c p a b : Nat) (h : v + p * c = a + b) : v + p * ((x + y + c) % B) + p * B * ((x + y + c) / B) = (a + p * x) + (b + p * y) := by
  have e : p * ((x + y + c) % B) + p * B * ((x + y + c) / B) = p * (x + y + c) := by
    rw [Nat.mul_assoc, ← Nat.mul_add]; congr 1; exact Nat.mod_add_div _ _
  have e2 : p * (x + y + c) = p * x + p * y + p * c := by rw [Nat.mul_add, Nat.mul_add]
  omega
theorem take_append_drop_step (rs cz : List Nat) (i d : Nat) (hl : rs.length = i) (hi : i < cz.length) : (rs ++ cz.drop i).set i d = (rs ++ [d]) ++ cz.drop (i + 1) := by
  subst hl
  rw [List.set_append_right _ _ (Nat.le_refl _), Nat.sub_self, List.drop_eq_getElem_cons hi, List.set_cons_zero, List.append_assoc]
  rfl
end Go.Proofs.Ybulkanxo
