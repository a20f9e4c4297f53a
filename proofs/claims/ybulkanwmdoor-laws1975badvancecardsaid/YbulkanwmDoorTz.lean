/-
  THE WALKS OF math/bits.TrailingZeros64, rowSet.first AND messageSpec.next over the seat's dump.
-/
import Derived.Test.YbulkanwmDoorRows
import Derived.WalkKit
import Derived.WalkSpells
import Derived.WalkLawsBesides
import Derived.Lib.TrailingZeros
namespace Go.Proofs.YbulkanwmDoor
open Go.RowKit

/-- The table in its variable (global 0). -/
def TabAt (w : World) : Prop := ∀ j, j < 64 → w.cell? ⟨0, j, none⟩ = some (.int .u8 (Lib.deBruijn64tab.getD j 0 : Nat))

theorem tz64_core (x k idx : Nat) (w : World) (hx0 : ((x : Int) == 0) = false)
    (key : IntKind.u64.wrap (bits BinOp.and IntKind.u64 (x : Int) (IntKind.u64.wrap (-(x : Int))) * 285870213051353865) / 288230376151711744 = (idx : Int))
    (hi : idx < 64) (hk : k < 64) (hcell : w.cell? ⟨0, idx, none⟩ = some (.int .u8 k)) :
    Calls Ybad.prog 7 #[.int .u64 x] w fun e w' => e = .returned (.int .i64 k) ∧ w' = w := by
  go_enter Ybad.func7, Ybad.ntmps7
  go_wp2_with (simp only [key])
  go_ret
  exact ⟨rfl, rfl⟩

theorem tz64_key (x a : Nat) (hx : x < 18446744073709551616) (hx0 : x ≠ 0) (hlow : x &&& (18446744073709551616 - x) = a) :
    IntKind.u64.wrap (bits BinOp.and IntKind.u64 (x : Int) (IntKind.u64.wrap (-(x : Int))) * 285870213051353865) / 288230376151711744 = ((a * 285870213051353865 % 18446744073709551616 / 288230376151711744 : Nat) : Int) := by
  have e1 : IntKind.u64.wrap (-(x : Int)) = ((18446744073709551616 - x : Nat) : Int) := by rw [IntKind.wrap_u64]; omega
  rw [e1, bits_and_u64_nat x _ hx (by omega), hlow, IntKind.wrap_u64]
  omega

/-- math/bits.TrailingZeros64 at x ≠ 0. -/
theorem tz64_any (x : Nat) (hx : x < 18446744073709551616) (hx0 : x ≠ 0) (w : World) (hT : TabAt w) :
    Calls Ybad.prog 7 #[.int .u64 x] w fun e w' => e = .returned (.int .i64 (Lib.ctz 64 x)) ∧ w' = w := by
  obtain ⟨hlow, hk⟩ := Lib.lowest_bit 64 x hx0 hx
  obtain ⟨hi, htab⟩ := Lib.deBruijn64_at _ hk
  have hcell := hT _ hi
  rw [htab] at hcell
  exact tz64_core x _ _ w (by simp; omega) (tz64_key x _ hx hx0 hlow) hi hk hcell

/-- rowSet.first at x ≠ 0. -/
theorem first_any (x : Nat) (hx : x < 18446744073709551616) (hx0 : x ≠ 0) (w : World) (hT : TabAt w) :
    Calls Ybad.prog 6 #[.int .u64 x] w fun e w' => e = .returned (.int .i64 (Lib.ctz 64 x)) ∧ w' = w := by
  go_enter Ybad.func6, Ybad.ntmps6
  go_wp2_with (go_at_call 7; refine (tz64_any x hx hx0 _ hT).mono ?_; rintro e w' ⟨rfl, rfl⟩)
  go_ret
  exact ⟨rfl, rfl⟩

/-! ### The plain functions -/
def M : Nat := 18446744073709551615
def freeN (rows used oneOf : Nat) : Nat := if used &&& oneOf = 0 then rows &&& (M - used) else (rows &&& (M - used)) &&& (M - oneOf)
def nextN (rows used oneOf : Nat) : Int := if freeN rows used oneOf = 0 then -1 else (Lib.ctz 64 (freeN rows used oneOf) : Nat)

theorem and_lt (a b : Nat) (h : a < 18446744073709551616) : a &&& b < 18446744073709551616 := Nat.lt_of_le_of_lt Nat.and_le_left h

/-- the walk of next, by its four ways -/
theorem next_z0 (b rows used oneOf f : Nat) (w : World) (hc : w.cell? ⟨b, 5, none⟩ = some (.int .u64 oneOf))
    (h1 : bits BinOp.andNot IntKind.u64 (rows : Int) (used : Int) = (f : Int)) (h2 : bits BinOp.and IntKind.u64 (used : Int) (oneOf : Int) = 0) (h3 : f = 0) :
    Calls Ybad.prog 5 #[.pointer (some ⟨b, 0, none⟩), .int .u64 rows, .int .u64 used] w fun e w' => e = .returned (.int .i64 (-1)) ∧ w' = w := by
  subst h3
  go_enter Ybad.func5, Ybad.ntmps5
  go_wp2
  go_ret
  exact ⟨rfl, rfl⟩
theorem next_z1 (b rows used oneOf f : Nat) (w : World) (hT : TabAt w) (hc : w.cell? ⟨b, 5, none⟩ = some (.int .u64 oneOf))
    (h1 : bits BinOp.andNot IntKind.u64 (rows : Int) (used : Int) = (f : Int)) (h2 : bits BinOp.and IntKind.u64 (used : Int) (oneOf : Int) = 0) (h3 : 0 < f) (h4 : f < 18446744073709551616) :
    Calls Ybad.prog 5 #[.pointer (some ⟨b, 0, none⟩), .int .u64 rows, .int .u64 used] w fun e w' => e = .returned (.int .i64 (Lib.ctz 64 f)) ∧ w' = w := by
  go_enter Ybad.func5, Ybad.ntmps5
  go_wp2_with (go_at_call 6; refine (first_any f h4 (by omega) _ hT).mono ?_; rintro e w' ⟨rfl, rfl⟩)
  go_ret
  exact ⟨rfl, rfl⟩
theorem next_n0 (b rows used oneOf f g f2 : Nat) (w : World) (hc : w.cell? ⟨b, 5, none⟩ = some (.int .u64 oneOf))
    (h1 : bits BinOp.andNot IntKind.u64 (rows : Int) (used : Int) = (f : Int)) (h2 : bits BinOp.and IntKind.u64 (used : Int) (oneOf : Int) = (g : Int)) (hg : 0 < g)
    (h5 : bits BinOp.andNot IntKind.u64 (f : Int) (oneOf : Int) = (f2 : Int)) (h3 : f2 = 0) :
    Calls Ybad.prog 5 #[.pointer (some ⟨b, 0, none⟩), .int .u64 rows, .int .u64 used] w fun e w' => e = .returned (.int .i64 (-1)) ∧ w' = w := by
  subst h3
  go_enter Ybad.func5, Ybad.ntmps5
  go_wp2
  go_ret
  exact ⟨rfl, rfl⟩
theorem next_n1 (b rows used oneOf f g f2 : Nat) (w : World) (hT : TabAt w) (hc : w.cell? ⟨b, 5, none⟩ = some (.int .u64 oneOf))
    (h1 : bits BinOp.andNot IntKind.u64 (rows : Int) (used : Int) = (f : Int)) (h2 : bits BinOp.and IntKind.u64 (used : Int) (oneOf : Int) = (g : Int)) (hg : 0 < g)
    (h5 : bits BinOp.andNot IntKind.u64 (f : Int) (oneOf : Int) = (f2 : Int)) (h3 : 0 < f2) (h4 : f2 < 18446744073709551616) :
    Calls Ybad.prog 5 #[.pointer (some ⟨b, 0, none⟩), .int .u64 rows, .int .u64 used] w fun e w' => e = .returned (.int .i64 (Lib.ctz 64 f2)) ∧ w' = w := by
  go_enter Ybad.func5, Ybad.ntmps5
  go_wp2_with (go_at_call 6; refine (first_any f2 h4 (by omega) _ hT).mono ?_; rintro e w' ⟨rfl, rfl⟩)
  go_ret
  exact ⟨rfl, rfl⟩

theorem next_any (b rows used oneOf : Nat) (hr : rows < 18446744073709551616) (hu : used < 18446744073709551616) (ho : oneOf < 18446744073709551616) (w : World) (hT : TabAt w)
    (hc : w.cell? ⟨b, 5, none⟩ = some (.int .u64 oneOf)) :
    Calls Ybad.prog 5 #[.pointer (some ⟨b, 0, none⟩), .int .u64 rows, .int .u64 used] w fun e w' => e = .returned (.int .i64 (nextN rows used oneOf)) ∧ w' = w := by
  have h1 := u64_andNot_nat rows used hr hu
  have h2 := u64_and_nat used oneOf hu ho
  have l1 := and_lt rows (18446744073709551615 - used) hr
  by_cases hg : used &&& oneOf = 0
  · have ef : freeN rows used oneOf = rows &&& (18446744073709551615 - used) := by unfold freeN M; rw [if_pos hg]
    rw [hg] at h2
    by_cases hf : rows &&& (18446744073709551615 - used) = 0
    · have e : nextN rows used oneOf = -1 := by unfold nextN; rw [ef, if_pos hf]
      rw [e]
      exact next_z0 b rows used oneOf _ w hc h1 h2 hf
    · have e : nextN rows used oneOf = (Lib.ctz 64 (rows &&& (18446744073709551615 - used)) : Nat) := by unfold nextN; rw [ef, if_neg hf]
      rw [e]
      exact next_z1 b rows used oneOf _ w hT hc h1 h2 (by omega) l1
  · have ef : freeN rows used oneOf = rows &&& (18446744073709551615 - used) &&& (18446744073709551615 - oneOf) := by unfold freeN M; rw [if_neg hg]
    have h5 := u64_andNot_nat _ oneOf l1 ho
    have l2 := and_lt _ (18446744073709551615 - oneOf) l1
    by_cases hf : rows &&& (18446744073709551615 - used) &&& (18446744073709551615 - oneOf) = 0
    · have e : nextN rows used oneOf = -1 := by unfold nextN; rw [ef, if_pos hf]
      rw [e]
      exact next_n0 b rows used oneOf _ _ _ w hc h1 h2 (by omega) h5 hf
    · have e : nextN rows used oneOf = (Lib.ctz 64 (rows &&& (18446744073709551615 - used) &&& (18446744073709551615 - oneOf)) : Nat) := by unfold nextN; rw [ef, if_neg hf]
      rw [e]
      exact next_n1 b rows used oneOf _ _ _ w hT hc h1 h2 (by omega) h5 (by omega) l2
end Go.Proofs.YbulkanwmDoor
