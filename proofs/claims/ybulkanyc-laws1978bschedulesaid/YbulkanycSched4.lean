/-
  LawS1978BSchedule: what the run holds, plain. No Go in sight.
-/
import Derived.Test.YbulkanycSched3
namespace Go.Proofs.Ybulkanyc
set_option linter.unusedVariables false

/-- A lane: its span, its ring, its events. -/
abbrev Lane := Int × Value × List Nat
def fstOf (Ls : List Lane) (l : Nat) : Nat := ((Ls[l]?).map (fun x => x.2.2.headD 0)).getD 0
def mem (Ls : List Lane) : List Nat := Ls.flatMap (fun x => x.2.2)
def full (x : Lane) : Bool := !x.2.2.isEmpty
def ltH (A : Nat → Int) (Ls : List Lane) (a b : Nat) : Bool := ltE A (fstOf Ls a) (fstOf Ls b)

structure Inv (A : Nat → Int) (sp : Nat → Int) (i : Nat) (q : List Nat) (Ls : List Lane) (H : List Nat) : Prop where
  perm : (q ++ mem Ls).Perm (List.range i)
  heapQ : Heap (ltE A) q
  laneOk : ∀ (l : Nat) (x : Lane), Ls[l]? = some x → (∀ k ∈ x.2.2, sp k = x.1) ∧ x.2.2.Pairwise (· < ·)
  few : Ls.length ≤ 8
  nodupH : H.Nodup
  memH : ∀ l ∈ H, ∃ x : Lane, Ls[l]? = some x ∧ x.2.2 ≠ []
  cnt : Ls.countP full = H.length
  heapH : Heap (ltH A Ls) H

theorem mem_set (Ls : List Lane) (l : Nat) (x y : Lane) (k : Nat) (h : Ls[l]? = some x) (hy : y.2.2 = x.2.2 ++ [k]) : (mem (Ls.set l y)).Perm (k :: mem Ls) := by
  induction Ls generalizing l with
  | nil => simp at h
  | cons z zs ih =>
    cases l with
    | zero =>
      simp at h
      subst h
      simp only [List.set_cons_zero, mem, List.flatMap_cons, hy, List.append_assoc]
      exact List.perm_middle
    | succ l =>
      simp at h
      have := ih l h
      simp only [List.set_cons_succ, mem, List.flatMap_cons]
      unfold mem at this
      exact (List.Perm.append_left _ this).trans List.perm_middle
theorem cnt_set (Ls : List Lane) (l : Nat) (x y : Lane) (h : Ls[l]? = some x) : (Ls.set l y).countP full + (if full x then 1 else 0) = Ls.countP full + (if full y then 1 else 0) := by
  induction Ls generalizing l with
  | nil => simp at h
  | cons z zs ih =>
    cases l with
    | zero =>
      simp at h
      subst h
      simp only [List.set_cons_zero, List.countP_cons]
      omega
    | succ l =>
      simp at h
      have := ih l h
      simp only [List.set_cons_succ, List.countP_cons]
      omega
theorem mem_lt {A sp : Nat → Int} {i : Nat} {q : List Nat} {Ls : List Lane} {H : List Nat} (h : Inv A sp i q Ls H) {l : Nat} {x : Lane} (hx : Ls[l]? = some x) : ∀ k ∈ x.2.2, k < i := by
  intro k hk
  have : k ∈ q ++ mem Ls := by
    refine List.mem_append_right _ ?_
    exact List.mem_flatMap.2 ⟨x, List.mem_of_getElem? hx, hk⟩
  exact List.mem_range.1 ((h.perm.mem_iff).1 this)
theorem range_perm {i : Nat} {xs : List Nat} (h : xs.Perm (List.range i)) {ys : List Nat} (hy : ys.Perm (i :: xs)) : ys.Perm (List.range (i + 1)) := by
  rw [List.range_succ]
  refine hy.trans ?_
  exact (List.Perm.cons i h).trans (List.perm_append_comm (l₁ := [i]) (l₂ := List.range i))

theorem get_set_lane (Ls : List Lane) (l : Nat) (x y : Lane) (h : Ls[l]? = some x) (j : Nat) : (Ls.set l y)[j]? = if j = l then some y else Ls[j]? := by
  have hl : l < Ls.length := (List.getElem?_eq_some_iff.1 h).1
  rw [List.getElem?_set]
  by_cases e : l = j
  · subst e; simp [hl]
  · have : ¬ j = l := fun e' => e e'.symm
    simp [e, this]

/-- One more into a lane that holds some. -/
theorem Inv.more {A sp : Nat → Int} {i : Nat} {q : List Nat} {Ls : List Lane} {H : List Nat} (h : Inv A sp i q Ls H) {l : Nat} {x y : Lane} (hx : Ls[l]? = some x) (hne : x.2.2 ≠ []) (hy1 : y.1 = x.1) (hy : y.2.2 = x.2.2 ++ [i]) (hs : sp i = x.1) :
    Inv A sp (i + 1) q (Ls.set l y) H := by
  have hf : ∀ a, fstOf (Ls.set l y) a = fstOf Ls a := by
    intro a
    unfold fstOf
    rw [get_set_lane Ls l x y hx]
    by_cases e : a = l
    · subst e
      rw [if_pos rfl, hx]
      cases hm : x.2.2 with
      | nil => exact absurd hm hne
      | cons b bs => simp [hy, hm]
    · rw [if_neg e]
  refine ⟨?_, h.heapQ, ?_, by simpa using h.few, h.nodupH, ?_, ?_, ?_⟩
  · refine range_perm h.perm ?_
    exact (List.Perm.append_left q (mem_set Ls l x y i hx hy)).trans List.perm_middle
  · intro j z hz
    rw [get_set_lane Ls l x y hx] at hz
    by_cases e : j = l
    · rw [if_pos e] at hz
      cases hz
      obtain ⟨k1, k2⟩ := h.laneOk l x hx
      rw [hy, hy1]
      refine ⟨?_, ?_⟩
      · intro k hk
        rcases List.mem_append.1 hk with hk | hk
        · exact k1 k hk
        · simp at hk; subst hk; exact hs
      · rw [List.pairwise_append]
        refine ⟨k2, by simp, ?_⟩
        intro a ha b hb
        simp at hb
        subst hb
        exact mem_lt h hx a ha
    · rw [if_neg e] at hz
      exact h.laneOk j z hz
  · intro j hj
    obtain ⟨z, hz, hzn⟩ := h.memH j hj
    rw [get_set_lane Ls l x y hx]
    by_cases e : j = l
    · rw [if_pos e]
      exact ⟨y, rfl, by rw [hy]; simp⟩
    · rw [if_neg e]
      exact ⟨z, hz, hzn⟩
  · have := cnt_set Ls l x y hx
    have e1 : full x = true := by unfold full; cases hm : x.2.2 with | nil => exact absurd hm hne | cons b bs => rfl
    have e2 : full y = true := by unfold full; rw [hy]; cases hm : x.2.2 <;> rfl
    rw [e1, e2] at this
    have := h.cnt
    simp only [if_true] at *
    omega
  · refine h.heapH.congr ?_
    intro a b _ _
    unfold ltH
    rw [hf, hf]

/-- The first of a lane. -/
theorem Inv.firstUp {A sp : Nat → Int} {i : Nat} {q : List Nat} {Ls : List Lane} {H : List Nat} (h : Inv A sp i q Ls H) {l : Nat} {x y : Lane} (hx : Ls[l]? = some x) (he : x.2.2 = []) :
    l ∉ H ∧ Up (ltH A (Ls.set l y)) (H ++ [l]) H.length := by
  have hn : l ∉ H := by
    intro hm
    obtain ⟨z, hz, hzn⟩ := h.memH l hm
    rw [hx] at hz
    cases hz
    exact hzn he
  refine ⟨hn, Up.start (h.heapH.congr ?_) l⟩
  intro a b ha hb
  unfold ltH fstOf
  have na : ¬ a = l := fun e => hn (e ▸ ha)
  have nb : ¬ b = l := fun e => hn (e ▸ hb)
  rw [get_set_lane Ls l x y hx, get_set_lane Ls l x y hx, if_neg na, if_neg nb]
theorem Inv.first {A sp : Nat → Int} {i : Nat} {q : List Nat} {Ls : List Lane} {H H' : List Nat} (h : Inv A sp i q Ls H) {l : Nat} {x y : Lane} (hx : Ls[l]? = some x) (he : x.2.2 = []) (hy1 : y.1 = x.1) (hy : y.2.2 = [i]) (hs : sp i = x.1)
    (hp : H'.Perm (H ++ [l])) (hh : Heap (ltH A (Ls.set l y)) H') : Inv A sp (i + 1) q (Ls.set l y) H' := by
  obtain ⟨hn, _⟩ := h.firstUp (y := y) hx he
  refine ⟨?_, h.heapQ, ?_, by simpa using h.few, ?_, ?_, ?_, hh⟩
  · refine range_perm h.perm ?_
    exact (List.Perm.append_left q (mem_set Ls l x y i hx (by rw [hy, he]; rfl))).trans List.perm_middle
  · intro j z hz
    rw [get_set_lane Ls l x y hx] at hz
    by_cases e : j = l
    · rw [if_pos e] at hz
      cases hz
      rw [hy, hy1]
      refine ⟨?_, by simp⟩
      intro k hk
      simp at hk; subst hk; exact hs
    · rw [if_neg e] at hz
      exact h.laneOk j z hz
  · refine (hp.nodup_iff).2 ?_
    rw [List.nodup_append]
    refine ⟨h.nodupH, by simp, ?_⟩
    intro a ha b hb
    simp at hb
    subst hb
    intro e
    exact hn (e ▸ ha)
  · intro j hj
    have hj' := (hp.mem_iff).1 hj
    rw [get_set_lane Ls l x y hx]
    by_cases e : j = l
    · rw [if_pos e]
      exact ⟨y, rfl, by rw [hy]; simp⟩
    · rw [if_neg e]
      rcases List.mem_append.1 hj' with hm | hm
      · exact h.memH j hm
      · simp at hm; exact absurd hm e
  · have := cnt_set Ls l x y hx
    have e1 : full x = false := by unfold full; rw [he]; rfl
    have e2 : full y = true := by unfold full; rw [hy]; rfl
    rw [e1, e2] at this
    have := h.cnt
    have := hp.length_eq
    simp only [if_true, List.length_append, List.length_singleton, Bool.false_eq_true, if_false] at *
    omega
theorem Inv.queue {A sp : Nat → Int} {i : Nat} {q q' : List Nat} {Ls : List Lane} {H : List Nat} (h : Inv A sp i q Ls H) (hp : q'.Perm (q ++ [i])) (hh : Heap (ltE A) q') : Inv A sp (i + 1) q' Ls H := by
  refine ⟨?_, hh, h.laneOk, h.few, h.nodupH, h.memH, h.cnt, h.heapH⟩
  refine range_perm h.perm ?_
  refine (List.Perm.append_right _ hp).trans ?_
  rw [List.append_assoc]
  exact List.perm_middle
theorem Inv.newLane {A sp : Nat → Int} {i : Nat} {q : List Nat} {Ls : List Lane} {H : List Nat} (h : Inv A sp i q Ls H) (y : Lane) (hy : y.2.2 = []) (hl : Ls.length < 8) : Inv A sp i q (Ls ++ [y]) H := by
  have hg : ∀ l, l < Ls.length → (Ls ++ [y])[l]? = Ls[l]? := fun l hl => List.getElem?_append_left hl
  have hlt : ∀ l ∈ H, l < Ls.length := fun l hm => by obtain ⟨x, hx, _⟩ := h.memH l hm; exact (List.getElem?_eq_some_iff.1 hx).1
  refine ⟨?_, h.heapQ, ?_, by simp; omega, h.nodupH, ?_, ?_, ?_⟩
  · have : mem (Ls ++ [y]) = mem Ls := by simp [mem, hy]
    rw [this]; exact h.perm
  · intro l x hx
    by_cases hll : l < Ls.length
    · rw [hg l hll] at hx
      exact h.laneOk l x hx
    · rw [List.getElem?_append_right (by omega)] at hx
      have hz : l - Ls.length = 0 := by
        have := (List.getElem?_eq_some_iff.1 hx).1
        simp at this; omega
      rw [hz] at hx
      simp at hx
      subst hx
      rw [hy]
      exact ⟨by simp, by simp⟩
  · intro l hm
    rw [hg l (hlt l hm)]
    exact h.memH l hm
  · have e : full y = false := by unfold full; rw [hy]; rfl
    rw [List.countP_append]
    simp [e, h.cnt]
  · refine h.heapH.congr ?_
    intro a b ha hb
    unfold ltH fstOf
    rw [hg a (hlt a ha), hg b (hlt b hb)]
theorem Inv.zero (A sp : Nat → Int) (Ls : List Lane) (h : ∀ x ∈ Ls, x.2.2 = []) (hf : Ls.length ≤ 8) : Inv A sp 0 [] Ls [] := by
  have hm : mem Ls = [] := by
    unfold mem
    rw [List.flatMap_eq_nil_iff]
    exact h
  refine ⟨by rw [hm]; exact List.Perm.refl _, fun j h0 h1 => by simp at h1, ?_, hf, List.nodup_nil, by simp, ?_, fun j h0 h1 => by simp at h1⟩
  · intro l x hx
    rw [h x (List.mem_of_getElem? hx)]
    exact ⟨by simp, by simp⟩
  · simp only [List.length_nil]
    rw [List.countP_eq_zero]
    intro x hx
    unfold full
    rw [h x hx]
    simp
end Go.Proofs.Ybulkanyc
