/-
  newSource; schedule.holds of a file that is held already.
-/
import Derived.Test.YbulkanycHolds
import Derived.Test.YbulkanycFloat
namespace Go.Proofs.Ybulkanyc
open Go.RowKit
set_option linter.unusedVariables false

/-- The cells of a new source. -/
def src0 (rb mp : Nat) : Array Value := #[.int .i64 0, .int .u64 0, .int .i64 0, .pointer none, .int .i64 0, .int .u64 0, .bool false, .bool false, .bool false, .bool false, .string { data := #[97] }, .bool false,
  .pointer (some ⟨rb, 0, none⟩), .int .u64 0, .int .u64 0, .int .u64 0, .int .u64 0, .slice none 0 0, .int .i64 0, .map (some mp), .bool false, .int .i64 0, .int .u64 0, .bool false, .int .u64 0, .int .i64 0, .pointer none,
  .int .u64 0, .int .i64 0, .pointer none, .float .f64 0, .pointer none, .int .u64 0, .int .i64 0, .pointer none, .int .i64 0, .nilFunc]

theorem new_source (rb : Nat) (w : World) :
    Calls Yba.prog 6 #[.string { data := #[97] }, .bool false, .pointer (some ⟨rb, 0, none⟩)] w fun e w' => .returned (.pointer (some ⟨w.heap.size + 1, 0, none⟩)) = e ∧ (w.alloc (.map #[] 0)).alloc (.cells (src0 rb w.heap.size) 52) = w' := by
  have hmm := @run_makeMap Yba.prog
  go_enter Yba.func6, Yba.ntmps6
  go_wp2_with fail
  go_ret
  exact ⟨rfl, rfl⟩

theorem holds_kept (S P H p : Nat) (t m c t0 : Int) (f MB mp rb : Nat) (told grew : Bool) (hc : Array Value) (w : World)
    (hP : w.heap[P]? = some (.cells (src told grew m c t0 f MB mp rb) 52)) (hH : w.heap[H]? = some (.cells hc 59)) (h8 : hc[8]? = some (.int .i64 (p : Int)))
    (hp : p < 64) (hbit : (bits .and .u64 m (IntKind.u64.wrap (2 ^ p)) != 0) = true) :
    Calls Yba.prog 8 #[.pointer (some ⟨S, 0, none⟩), .pointer (some ⟨P, 0, none⟩), .pointer (some ⟨H, 0, none⟩), .agg #[.int .u64 t, .int .i64 0, .pointer none]] w fun e w' => .returned (.tuple #[]) = e ∧ Fr (fun _ => False) w w' := by
  have hPs := lt_of_block hP
  have hHs := lt_of_block hH
  refine holds_old S P H p t w hPs (cell_of_row _ _ _ _ _ _ hP) (hid ?_)
  intro wx hfr
  have b1 := (hfr.block P hPs (fun f => f)).trans hP
  have b2 := (hfr.block H hHs (fun f => f)).trans hH
  exact add_old P 13 H p m wx (lt_of_block b1) (lt_of_block b2) hp (by omega) (by omega) (by rw [cell_of_row _ _ _ _ _ _ b2]; exact h8) (cell_of_row _ _ _ _ _ _ b1) hbit

/-- The bits of the set. -/
theorem wrap_pow (p : Nat) (hp : p < 64) : IntKind.u64.wrap (2 ^ p) = ((2 ^ p : Nat) : Int) := by
  have h : (2 : Nat) ^ p < 2 ^ 64 := Nat.pow_lt_pow_right (by decide) hp
  rw [IntKind.wrap_u64]
  have e : ((2 : Int) ^ p) = ((2 ^ p : Nat) : Int) := by simp
  rw [e]
  generalize (2 : Nat) ^ p = q at h ⊢
  omega
theorem bit_test (m p : Nat) (hm : m < 2 ^ 64) (hp : p < 64) : (bits .and .u64 (m : Int) (IntKind.u64.wrap (2 ^ p)) != 0) = m.testBit p := by
  have h : (2 : Nat) ^ p < 2 ^ 64 := Nat.pow_lt_pow_right (by decide) hp
  rw [wrap_pow p hp, u64_and_nat m _ hm h]
  have e : m &&& 2 ^ p = if m.testBit p then 2 ^ p else 0 := by
    apply Nat.eq_of_testBit_eq
    intro i
    rw [Nat.testBit_and, Nat.testBit_two_pow]
    by_cases hi : p = i
    · subst hi
      cases hb : m.testBit p <;> simp
    · cases hb : m.testBit p <;> simp [hi]
  rw [e]
  cases hb : m.testBit p
  · simp
  · have := Nat.two_pow_pos p
    have h2 : (((if true = true then 2 ^ p else 0 : Nat) : Nat) : Int) ≠ 0 := by rw [if_pos rfl]; omega
    exact bne_iff_ne.2 h2
theorem bit_set (m p : Nat) (hm : m < 2 ^ 64) (hp : p < 64) : bits .or .u64 (m : Int) (IntKind.u64.wrap (2 ^ p)) = ((m ||| 2 ^ p : Nat) : Int) ∧ m ||| 2 ^ p < 2 ^ 64 := by
  have h : (2 : Nat) ^ p < 2 ^ 64 := Nat.pow_lt_pow_right (by decide) hp
  rw [wrap_pow p hp, u64_or_nat m _ hm h]
  exact ⟨rfl, Nat.or_lt_two_pow hm h⟩
end Go.Proofs.Ybulkanyc
