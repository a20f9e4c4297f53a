/-
  math/bits.Add64, Sub64 (the model's own entries), Add, Sub over the seat's dump.
-/
import Derived.Test.YbulkanxoRows
import Derived.Test.YbulkanxoMem
import Derived.Laws.Externs
namespace Go.Proofs.Ybulkanxo
open Go.RowKit

/-- The model's entry for math/bits.Sub64. -/
def sub64Entry : Array Value → Sem Value := fun args => do
  let (x, y, b) ← Extern.MathBitsCarry.three "Sub64" args
  pure (Extern.MathBitsCarry.pair ((x + Extern.MathBitsCarry.m64 - y - b) % Extern.MathBitsCarry.m64) (if x < y + b then 1 else 0))
theorem run_sub64' (x y b : Nat) (hb : b ≤ 1) (w : World) :
    (sub64Entry #[.int .u64 x, .int .u64 y, .int .u64 b]).run Yba.prog w =
      .ok (.tuple #[.int .u64 (((x + 18446744073709551616 - y - b) % 18446744073709551616 : Nat) : Int), .int .u64 ((if x < y + b then 1 else 0 : Nat) : Int)]) w := by
  have : b = 0 ∨ b = 1 := by omega
  rcases this with rfl | rfl <;> rfl

theorem add64 (x y c : Int) (hx : 0 ≤ x) (hy : 0 ≤ y) (hc0 : 0 ≤ c) (hc : c ≤ 1) (w : World) : (callFunc 34 #[.int .u64 x, .int .u64 y, .int .u64 c]).run Yba.prog w =
    .ok (.value (.tuple #[.int .u64 ((x + y + c) % 18446744073709551616), .int .u64 ((x + y + c) / 18446744073709551616)])) w := by
  rw [run_callFunc_extern Yba.func34 (by kernel_rfl) (by kernel_rfl) (by kernel_rfl) (e := add64Entry) (by kernel_rfl), run_add64 x y c hx hy hc0 hc]
  simp only [Result.andThen]
def bor (x y : Int) : Int := if x < y then 1 else 0
theorem sub64 (x y b : Int) (hx : 0 ≤ x) (hy : 0 ≤ y) (hy' : y < 18446744073709551616) (hb0 : 0 ≤ b) (hb : b ≤ 1) (w : World) : (callFunc 58 #[.int .u64 x, .int .u64 y, .int .u64 b]).run Yba.prog w =
    .ok (.value (.tuple #[.int .u64 ((x - y - b) % 18446744073709551616), .int .u64 (bor x (y + b))])) w := by
  obtain ⟨x, rfl⟩ := Int.eq_ofNat_of_zero_le hx
  obtain ⟨y, rfl⟩ := Int.eq_ofNat_of_zero_le hy
  obtain ⟨b, rfl⟩ := Int.eq_ofNat_of_zero_le hb0
  have e1 : (((x + 18446744073709551616 - y - b) % 18446744073709551616 : Nat) : Int) = ((x : Int) - y - b) % 18446744073709551616 := by omega
  have e2 : ((if x < y + b then 1 else 0 : Nat) : Int) = bor (x : Int) (y + b) := by unfold bor; split <;> split <;> omega
  rw [← e1, ← e2]
  rw [run_callFunc_extern Yba.func58 (by kernel_rfl) (by kernel_rfl) (by kernel_rfl) (e := sub64Entry) (by kernel_rfl), run_sub64' x y b (by omega)]
  rfl

theorem bits_add (x y c : Int) (hx : 0 ≤ x) (hy : 0 ≤ y) (hc0 : 0 ≤ c) (hc : c ≤ 1) (w : World) :
    Calls Yba.prog 51 #[.int .u64 x, .int .u64 y, .int .u64 c] w fun e w' => e = .returned (.tuple #[.int .u64 ((x + y + c) % 18446744073709551616), .int .u64 ((x + y + c) / 18446744073709551616)]) ∧ w' = w := by
  have ha := fun wx => add64 x y c hx hy hc0 hc wx
  go_enter Yba.func51, Yba.ntmps51
  go_wp2_with (simp only [ha])
  go_ret2
  exact ⟨rfl, rfl⟩
theorem bits_sub (x y c : Int) (hx : 0 ≤ x) (hy : 0 ≤ y) (hy' : y < 18446744073709551616) (hc0 : 0 ≤ c) (hc : c ≤ 1) (w : World) :
    Calls Yba.prog 54 #[.int .u64 x, .int .u64 y, .int .u64 c] w fun e w' => e = .returned (.tuple #[.int .u64 ((x - y - c) % 18446744073709551616), .int .u64 (bor x (y + c))]) ∧ w' = w := by
  have ha := fun wx => sub64 x y c hx hy hy' hc0 hc wx
  go_enter Yba.func54, Yba.ntmps54
  go_wp2_with (simp only [ha])
  go_ret2
  exact ⟨rfl, rfl⟩
end Go.Proofs.Ybulkanxo
