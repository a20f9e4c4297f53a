/-
  THE WALK OF LawS1975BAdvance.
-/
import Derived.Test.YbulkanwmDoorPlain
namespace Go.Proofs.YbulkanwmDoor
open Go.RowKit

theorem tabAlloc {w : World} (h : TabAt w) (hw : 0 < w.heap.size) (o : Obj) : TabAt (w.alloc o) := by
  intro j hj
  rw [World.cell?_alloc_past _ _ _ (by simpa using hw)]
  exact h j hj
theorem sat_zero (rows used k : Nat) : sat rows used 0 k = (rows.testBit k && !used.testBit k) := by
  unfold sat; simp

/-- What 'next' answers without a group: -1 and nothing is free, or the first free row. -/
theorem next_cases (rows used : Nat) (hr : rows < 18446744073709551616) (hu : used < 18446744073709551616) :
    (nextN rows used 0 = -1 ∧ rows &&& (18446744073709551615 - used) = 0) ∨
    (∃ k : Nat, k < 64 ∧ nextN rows used 0 = (k : Int) ∧ rows.testBit k = true ∧ used.testBit k = false ∧ ∀ j, j < k → (rows.testBit j && !used.testBit j) = false) := by
  by_cases h : freeN rows used 0 = 0
  · left
    refine ⟨by unfold nextN; rw [if_pos h], ?_⟩
    unfold freeN M at h
    simpa using h
  · right
    obtain ⟨c1, c2, c3⟩ := ctz_bits _ h (free_lt rows used 0 hr)
    have hs := free_bit rows used 0 _ hu (by decide) c1
    rw [c2, sat_zero] at hs
    refine ⟨_, c1, by unfold nextN; rw [if_neg h], ?_, ?_, ?_⟩
    · have := hs.symm; simp at this; exact this.1
    · have := hs.symm; simp at this; exact this.2
    · intro j hj
      have := c3 j hj
      rw [free_bit rows used 0 j hu (by decide) (by omega), sat_zero] at this
      exact this

theorem or_lt (u k : Nat) (hu : u < 18446744073709551616) (hk : k < 64) : u ||| 2 ^ k < 18446744073709551616 := by
  have h : (2 : Nat) ^ k < 2 ^ 64 := Nat.pow_lt_pow_right (by decide) hk
  exact Nat.or_lt_two_pow (n := 64) hu h
theorem or_bit (u k : Nat) (hu : u < 18446744073709551616) (hk : k < 64) : bits BinOp.or IntKind.u64 (u : Int) (IntKind.u64.wrap (2 ^ k)) = ((u ||| 2 ^ k : Nat) : Int) := by
  have h : (2 : Nat) ^ k < 2 ^ 64 := Nat.pow_lt_pow_right (by decide) hk
  rw [wrap_two_pow k hk, u64_or_nat u _ hu h]

/-- Behind the mark the answer is -1 or a later row. -/
theorem next_later (rows used k : Nat) (hr : rows < 18446744073709551616) (hu : used < 18446744073709551616) (hk : k < 64)
    (hlow : ∀ j, j < k → (rows.testBit j && !used.testBit j) = false) : nextN rows (used ||| 2 ^ k) 0 = -1 ∨ ∃ k2 : Nat, nextN rows (used ||| 2 ^ k) 0 = (k2 : Int) ∧ k < k2 := by
  rcases next_cases rows (used ||| 2 ^ k) hr (or_lt used k hu hk) with ⟨h, _⟩ | ⟨k2, _, h, a, b, _⟩
  · exact .inl h
  · right
    refine ⟨k2, h, ?_⟩
    rw [Nat.testBit_or] at b
    simp only [Bool.or_eq_false_iff] at b
    have hne : k2 ≠ k := by
      intro e
      have := b.2
      rw [e, Nat.testBit_two_pow_self] at this
      cases this
    apply Classical.byContradiction
    intro hc
    have := hlow k2 (by omega)
    rw [a, b.1] at this
    cases this

theorem andNot0 (rows used : Nat) (hr : rows < 18446744073709551616) (hu : used < 18446744073709551616) (h : rows &&& (18446744073709551615 - used) = 0) :
    bits BinOp.andNot IntKind.u64 (rows : Int) (used : Int) = 0 := by
  rw [u64_andNot_nat rows used hr hu, h]; rfl

/-- next at the spec without a group, its answer handed over as a number. -/
theorem next_at (b rows used : Nat) (r : Int) (hr : rows < 18446744073709551616) (hu : used < 18446744073709551616) (w : World) (hT : TabAt w)
    (hc : w.cell? ⟨b, 5, none⟩ = some (.int .u64 0)) (e : nextN rows used 0 = r) :
    Calls Ybad.prog 5 #[.pointer (some ⟨b, 0, none⟩), .int .u64 rows, .int .u64 used] w fun e w' => e = .returned (.int .i64 r) ∧ w' = w := by
  rw [← e]
  exact next_any b rows used 0 hr hu (by decide) w hT hc

set_option maxHeartbeats 400000 in
theorem advance_none (rows used : Nat) (hr : rows < 18446744073709551616) (hu : used < 18446744073709551616) (w : World) (hT : TabAt w) (hw : 0 < w.heap.size)
    (hn : Hid (nextN rows used 0 = -1)) (ha : bits BinOp.andNot IntKind.u64 (rows : Int) (used : Int) = 0) :
    Calls Ybad.prog 4 #[.int .u64 rows, .int .u64 used] w fun e w' => e = .returned (.bool true) ∧ Grown w w' := by
  go_enter Ybad.func4, Ybad.ntmps4
  go_wp2_with fail
  refine (next_at w.heap.size rows used (-1) hr hu _ (tabAlloc hT hw _) (by simp) hn.out).mono ?_
  rintro e w' ⟨rfl, rfl⟩
  go_wp2
  go_ret
  exact ⟨rfl, (Grown.refl _).alloc _ _⟩

set_option maxHeartbeats 400000 in
theorem advance_end (rows used k p u2 : Nat) (hr : rows < 18446744073709551616) (hu : used < 18446744073709551616) (w : World) (hT : TabAt w) (hw : 0 < w.heap.size) (hk : k < 64)
    (hn : Hid (nextN rows used 0 = k)) (h1 : bits BinOp.and IntKind.u64 (rows : Int) (IntKind.u64.wrap (2 ^ k)) = (p : Int)) (hp : 0 < p)
    (h2 : bits BinOp.and IntKind.u64 (used : Int) (IntKind.u64.wrap (2 ^ k)) = 0) (h3 : bits BinOp.or IntKind.u64 (used : Int) (IntKind.u64.wrap (2 ^ k)) = (u2 : Int))
    (hu2 : u2 < 18446744073709551616) (hn2 : Hid (nextN rows u2 0 = -1)) :
    Calls Ybad.prog 4 #[.int .u64 rows, .int .u64 used] w fun e w' => e = .returned (.bool true) ∧ Grown w w' := by
  go_enter Ybad.func4, Ybad.ntmps4
  go_wp2_with fail
  refine (next_at w.heap.size rows used k hr hu _ (tabAlloc hT hw _) (by simp) hn.out).mono ?_
  rintro e w' ⟨rfl, rfl⟩
  go_wp2_with fail
  refine (next_at w.heap.size rows u2 (-1) hr hu2 _ (tabAlloc hT hw _) (by simp) hn2.out).mono ?_
  rintro e w' ⟨rfl, rfl⟩
  go_wp2
  go_ret
  exact ⟨rfl, (Grown.refl _).alloc _ _⟩

set_option maxHeartbeats 400000 in
theorem advance_on (rows used k p u2 k2 : Nat) (hr : rows < 18446744073709551616) (hu : used < 18446744073709551616) (w : World) (hT : TabAt w) (hw : 0 < w.heap.size) (hk : k < 64)
    (hn : Hid (nextN rows used 0 = k)) (h1 : bits BinOp.and IntKind.u64 (rows : Int) (IntKind.u64.wrap (2 ^ k)) = (p : Int)) (hp : 0 < p)
    (h2 : bits BinOp.and IntKind.u64 (used : Int) (IntKind.u64.wrap (2 ^ k)) = 0) (h3 : bits BinOp.or IntKind.u64 (used : Int) (IntKind.u64.wrap (2 ^ k)) = (u2 : Int))
    (hu2 : u2 < 18446744073709551616) (hn2 : Hid (nextN rows u2 0 = k2)) (hlt : k < k2) :
    Calls Ybad.prog 4 #[.int .u64 rows, .int .u64 used] w fun e w' => e = .returned (.bool true) ∧ Grown w w' := by
  go_enter Ybad.func4, Ybad.ntmps4
  go_wp2_with fail
  refine (next_at w.heap.size rows used k hr hu _ (tabAlloc hT hw _) (by simp) hn.out).mono ?_
  rintro e w' ⟨rfl, rfl⟩
  go_wp2_with fail
  refine (next_at w.heap.size rows u2 k2 hr hu2 _ (tabAlloc hT hw _) (by simp) hn2.out).mono ?_
  rintro e w' ⟨rfl, rfl⟩
  go_wp2
  go_ret
  exact ⟨rfl, (Grown.refl _).alloc _ _⟩

theorem advance_any (rows used : Nat) (hr : rows < 18446744073709551616) (hu : used < 18446744073709551616) (w : World) (hT : TabAt w) (hw : 0 < w.heap.size) :
    Calls Ybad.prog 4 #[.int .u64 rows, .int .u64 used] w fun e w' => e = .returned (.bool true) ∧ Grown w w' := by
  rcases next_cases rows used hr hu with ⟨h, h0⟩ | ⟨k, hk, h, a, b, c⟩
  · exact advance_none rows used hr hu w hT hw h (andNot0 rows used hr hu h0)
  · obtain ⟨p, hp, b1⟩ := bit_on rows k hr hk a
    have b2 := bit_off used k hu hk b
    have b3 := or_bit used k hu hk
    have l2 := or_lt used k hu hk
    rcases next_later rows used k hr hu hk c with e | ⟨k2, e, hlt⟩
    · exact advance_end rows used k p _ hr hu w hT hw hk h b1 hp b2 b3 l2 e
    · exact advance_on rows used k p _ k2 hr hu w hT hw hk h b1 hp b2 b3 l2 e hlt
end Go.Proofs.YbulkanwmDoor
