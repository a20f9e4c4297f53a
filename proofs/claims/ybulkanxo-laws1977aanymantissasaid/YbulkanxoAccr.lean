/-
  accrua.wideAccrual.
-/
import Derived.Test.YbulkanxoMul
import Derived.Test.YbulkanxoOwn
namespace Go.Proofs.Ybulkanxo
open Go.RowKit
set_option linter.unusedVariables false

/-- What wideAccrual answers. -/
def AccrOut (w w' : World) (i d : Int) (ok : Bool) (e : Ending) : Prop := .returned (.tuple #[.int .i64 i, .int .i64 d, .bool ok]) = e ∧ Fr (fun _ => False) w w'

section
variable (a hi lo s : Nat) (exp r : Int) (w : World) (x0 x1 x2 q : Nat) (p1h p1l p0h c : Nat)
  (M1 : Hid (∀ wx, Calls Yba.prog 33 #[.int .u64 a, .int .u64 hi] wx fun e w' => .returned (.tuple #[.int .u64 (p1h : Int), .int .u64 (p1l : Int)]) = e ∧ wx = w'))
  (M2 : Hid (∀ wx, Calls Yba.prog 33 #[.int .u64 a, .int .u64 lo] wx fun e w' => .returned (.tuple #[.int .u64 (p0h : Int), .int .u64 (x0 : Int)]) = e ∧ wx = w'))
  (hadd : ∀ wx, (callFunc 34 #[.int .u64 (p1l : Int), .int .u64 (p0h : Int), .int .u64 0]).run Yba.prog wx = .ok (.value (.tuple #[.int .u64 (x1 : Int), .int .u64 (c : Int)])) wx)
  (e7 : IntKind.u64.wrap ((p1h : Int) + c) = (x2 : Int))
include M1 M2 hadd e7

set_option maxHeartbeats 1000000 in
theorem accr_low (z : Int) (hs : wrap64 (128 - exp) = z) (hs1 : z < 1) :
    Calls Yba.prog 15 #[.int .u64 (a : Int), .agg #[.int .u64 (hi : Int), .int .u64 (lo : Int), .int .i64 exp], .int .i64 r] w fun e w' => AccrOut w w' 0 0 false e := by
  go_enter Yba.func15, Yba.ntmps15
  go_wp2_with fail
  refine (M1.out _).mono ?_
  rintro e w' ⟨rfl, rfl⟩
  go_wp2_with fail
  refine (M2.out _).mono ?_
  rintro e w' ⟨rfl, rfl⟩
  go_wp2_with fail
  go_ret3
  exact ⟨rfl, ((Fr.refl _ w).alloc _).alloc _⟩
set_option maxHeartbeats 1000000 in
theorem accr_high (z : Int) (hs : wrap64 (128 - exp) = z) (hs1 : 191 < z) :
    Calls Yba.prog 15 #[.int .u64 (a : Int), .agg #[.int .u64 (hi : Int), .int .u64 (lo : Int), .int .i64 exp], .int .i64 r] w fun e w' => AccrOut w w' 0 0 false e := by
  go_enter Yba.func15, Yba.ntmps15
  go_wp2_with fail
  refine (M1.out _).mono ?_
  rintro e w' ⟨rfl, rfl⟩
  go_wp2_with fail
  refine (M2.out _).mono ?_
  rintro e w' ⟨rfl, rfl⟩
  go_wp2_with fail
  go_ret3
  exact ⟨rfl, ((Fr.refl _ w).alloc _).alloc _⟩

set_option maxHeartbeats 1000000 in
theorem accr_no (hs : wrap64 (128 - exp) = (s : Int)) (hs1 : 1 ≤ s) (hs2 : s ≤ 191)
    (S1 : Hid (∀ wx, Calls Yba.prog 35 #[.agg #[.int .u64 x0, .int .u64 x1, .int .u64 x2], .int .u64 (s : Int)] wx fun e w' => ShiftOut wx w' 0 false e)) :
    Calls Yba.prog 15 #[.int .u64 (a : Int), .agg #[.int .u64 (hi : Int), .int .u64 (lo : Int), .int .i64 exp], .int .i64 r] w fun e w' => AccrOut w w' 0 0 false e := by
  go_enter Yba.func15, Yba.ntmps15
  go_wp2_with fail
  refine (M1.out _).mono ?_
  rintro e w' ⟨rfl, rfl⟩
  go_wp2_with fail
  refine (M2.out _).mono ?_
  rintro e w' ⟨rfl, rfl⟩
  go_wp2_with fail
  refine (S1.out _).mono ?_
  rintro e w1 ⟨rfl, f1⟩
  have F1 := hid f1
  clear f1
  go_wp2_with fail
  go_ret3
  exact ⟨rfl, (((Fr.refl _ w).alloc _).alloc _).trans F1.out⟩
set_option maxHeartbeats 1000000 in
theorem accr_big (hs : wrap64 (128 - exp) = (s : Int)) (hs1 : 1 ≤ s) (hs2 : s ≤ 191) (hq : (4611686018427387904 : Int) ≤ (q : Int))
    (S1 : Hid (∀ wx, Calls Yba.prog 35 #[.agg #[.int .u64 x0, .int .u64 x1, .int .u64 x2], .int .u64 (s : Int)] wx fun e w' => ShiftOut wx w' q true e)) :
    Calls Yba.prog 15 #[.int .u64 (a : Int), .agg #[.int .u64 (hi : Int), .int .u64 (lo : Int), .int .i64 exp], .int .i64 r] w fun e w' => AccrOut w w' 0 0 false e := by
  go_enter Yba.func15, Yba.ntmps15
  go_wp2_with fail
  refine (M1.out _).mono ?_
  rintro e w' ⟨rfl, rfl⟩
  go_wp2_with fail
  refine (M2.out _).mono ?_
  rintro e w' ⟨rfl, rfl⟩
  go_wp2_with fail
  refine (S1.out _).mono ?_
  rintro e w1 ⟨rfl, f1⟩
  have F1 := hid f1
  clear f1
  go_wp2_with fail
  go_ret3
  exact ⟨rfl, (((Fr.refl _ w).alloc _).alloc _).trans F1.out⟩

end
end Go.Proofs.Ybulkanxo
