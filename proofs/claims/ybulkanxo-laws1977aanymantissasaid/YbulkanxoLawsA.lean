/-
  LawS1977AMatchesExact, LawS1977AAnyMantissa: the walks.
-/
import Derived.Test.YbulkanxoCheckC
namespace Go.Proofs.Ybulkanxo
open Go.RowKit
set_option linter.unusedVariables false

theorem and62 (n : Nat) (hn : n < B) : bits BinOp.and IntKind.u64 (n : Int) 4611686018427387903 = ((n % 4611686018427387904 : Nat) : Int) := by
  have h := u64_and_nat n 4611686018427387903 hn (by decide)
  have e : n &&& 4611686018427387903 = n % 4611686018427387904 := Nat.and_two_pow_sub_one_eq_mod n 62
  rw [e] at h
  exact h
theorem or63 (n : Nat) (hn : n < B) : bits BinOp.or IntKind.u64 (n : Int) 9223372036854775808 = ((n ||| 9223372036854775808 : Nat) : Int) := u64_or_nat n 9223372036854775808 hn (by decide)
theorem or63_lt (n : Nat) (hn : n < B) : n ||| 9223372036854775808 < B := Nat.or_lt_two_pow (n := 64) hn (by decide)

set_option maxHeartbeats 1000000 in
theorem law3_walk (n0 n1 n2 a h : Nat) (exp sel : Int) (w : World) (hs0 : 0 ≤ sel) (hs1 : sel ≤ 255) (h1 : bits BinOp.and IntKind.u64 (n0 : Int) 4611686018427387903 = (a : Int)) (h2 : bits BinOp.or IntKind.u64 (n1 : Int) 9223372036854775808 = (h : Int))
    (C : Hid (∀ r : Int, Calls Yba.prog 7 #[.int .u64 (a : Int), .int .u64 (h : Int), .int .u64 (n2 : Int), .int .i64 exp, .int .i64 r] w fun e w' => .returned (.bool true) = e ∧ Below w.heap.size w w')) :
    Calls Yba.prog 3 #[.int .u64 (n0 : Int), .int .u64 (n1 : Int), .int .u64 (n2 : Int), .int .i64 exp, .int .u8 sel] w fun e w' => e = .returned (.bool true) ∧ Below w.heap.size w w' := by
  go_enter Yba.func3, Yba.ntmps3
  go_wp2_with fail
  refine (C.out _).mono ?_
  rintro e w1 ⟨rfl, r1⟩
  go_wp2_with fail
  go_ret
  exact ⟨rfl, r1⟩
theorem law3_any (n0 n1 n2 : Nat) (exp sel : Int) (w : World) (l0 : n0 < B) (l1 : n1 < B) (l2 : n2 < B) (hm : -9223372036854775808 ≤ exp) (hM : exp < 9223372036854775808) (hs0 : 0 ≤ sel) (hs1 : sel ≤ 255) :
    Calls Yba.prog 3 #[.int .u64 (n0 : Int), .int .u64 (n1 : Int), .int .u64 (n2 : Int), .int .i64 exp, .int .u8 sel] w fun e w' => e = .returned (.bool true) ∧ Below w.heap.size w w' :=
  law3_walk n0 n1 n2 _ _ exp sel w hs0 hs1 (and62 n0 l0) (or63 n1 l1) (fun r => check_any _ _ _ exp r w (Nat.mod_lt _ (by decide)) (or63_lt n1 l1) l2 hm hM)

set_option maxHeartbeats 1000000 in
theorem law4_walk (n0 n1 n2 a : Nat) (exp rr : Int) (w : World) (h1 : bits BinOp.and IntKind.u64 (n0 : Int) 4611686018427387903 = (a : Int))
    (C : Hid (∀ r : Int, Calls Yba.prog 7 #[.int .u64 (a : Int), .int .u64 (n1 : Int), .int .u64 (n2 : Int), .int .i64 exp, .int .i64 r] w fun e w' => .returned (.bool true) = e ∧ Below w.heap.size w w')) :
    Calls Yba.prog 4 #[.int .u64 (n0 : Int), .int .u64 (n1 : Int), .int .u64 (n2 : Int), .int .i64 exp, .int .i8 rr] w fun e w' => e = .returned (.bool true) ∧ Below w.heap.size w w' := by
  go_enter Yba.func4, Yba.ntmps4
  go_wp2_with fail
  refine (C.out _).mono ?_
  rintro e w1 ⟨rfl, r1⟩
  go_wp2_with fail
  go_ret
  exact ⟨rfl, r1⟩
theorem law4_any (n0 n1 n2 : Nat) (exp rr : Int) (w : World) (l0 : n0 < B) (l1 : n1 < B) (l2 : n2 < B) (hm : -9223372036854775808 ≤ exp) (hM : exp < 9223372036854775808) :
    Calls Yba.prog 4 #[.int .u64 (n0 : Int), .int .u64 (n1 : Int), .int .u64 (n2 : Int), .int .i64 exp, .int .i8 rr] w fun e w' => e = .returned (.bool true) ∧ Below w.heap.size w w' :=
  law4_walk n0 n1 n2 _ exp rr w (and62 n0 l0) (fun r => check_any _ _ _ exp r w (Nat.mod_lt _ (by decide)) l1 l2 hm hM)
end Go.Proofs.Ybulkanxo
