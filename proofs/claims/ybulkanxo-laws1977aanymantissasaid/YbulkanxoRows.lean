/-
  No cell of these rows narrows 'for every input' (looked for: loops, veiled, ifaces, maps, wideKeys, modest, calm, conditions, laid).
  DERIVED. THE GIVEN ROWS OF THIS SEAT. 4 by the template 'for every input the law returns true; each argument reads behind the call as it read before'; 0 by the template 'total and deterministic' (their statements: YbulkanxoTotals.lean).
  GIVEN WITH THE SEED: the statements are not yours to turn. If you find one false, say at which input.
  Laid BY PROGRAM, IN A SANDBOX (cutbox-rows.mjs): the forced cells as the released guide's own fill.sh prints them over the translation 680f650e1b48e42a… (all of the seat's roots in one cut). By AI agents, Wed Nov 11 2026. No macro, syntax, notation, axiom, sorry.
-/
import Derived.Test.YbulkanxoChecked
import GoSem.Claim
import GoSem.ClaimJoined
import GoSem.ClaimMapViews
import Derived.JoinedTies
import Derived.KernelRfl
namespace Go.Proofs.Ybulkanxo
/- THE CELL 'sum', in the pinned program and in every row, IS THE sha256 OF THE DUMP (.gsa) THAT YbulkanxoProg.lean LOADS. Nothing in Lean hashes anything: it is a label: what it is worth is what the hold of that sum in a sandbox is worth. -/
noncomputable def Yba.pinned : Pinned := { name := "ybulkanxo", sum := "680f650e1b48e42a5b6ceb8d15f7e8ca97e0075bd330b7e5a0bad87a0a2c994c", checked := Yba.checked }
namespace Rows
def none {H : Type} : Left H := { results := [], args := [] }

/-- 'accrua.LawS1977AMatchesExact': WHATEVER THE INPUT: true; the input reads as it did. -/
def lawS1977AMatchesExactSpec : ChangeSpec := { name := "lawS1977AMatchesExact", fn := fun _ => fun
  | [d1, d2, d3, d4, d5] => { results := [.lit (.bool true)], args := [d1, d2, d3, d4, d5] }
  | _ => none }
def lawS1977AMatchesExactRow : OpenClaim := { program := "ybulkanxo", sum := "680f650e1b48e42a5b6ceb8d15f7e8ca97e0075bd330b7e5a0bad87a0a2c994c", func := "example.com/accrua/accrua.LawS1977AMatchesExact", spec := "lawS1977AMatchesExact", inPlace := ["math/bits.Add64", "math/big.lshVU", "math/big.addVV", "math/big.subVV", "math/bits.Sub64"], recurses := true, apart := false }
def LawS1977AMatchesExactSaid : Prop := lawS1977AMatchesExactRow.holds Yba.pinned (OpenSpec.ofChange lawS1977AMatchesExactSpec)

/-- ITS FALSE NEIGHBOUR: 'it returns false'. Refute it at one input. -/
def lawS1977AMatchesExactWrong : ChangeSpec := { name := "lawS1977AMatchesExact", fn := fun _ => fun
  | [d1, d2, d3, d4, d5] => { results := [.lit (.bool false)], args := [d1, d2, d3, d4, d5] }
  | _ => none }
def LawS1977AMatchesExactWrongFalsely : Prop := lawS1977AMatchesExactRow.holds Yba.pinned (OpenSpec.ofChange lawS1977AMatchesExactWrong)

/-- 'accrua.LawS1977AAnyMantissa': WHATEVER THE INPUT: true; the input reads as it did. -/
def lawS1977AAnyMantissaSpec : ChangeSpec := { name := "lawS1977AAnyMantissa", fn := fun _ => fun
  | [d1, d2, d3, d4, d5] => { results := [.lit (.bool true)], args := [d1, d2, d3, d4, d5] }
  | _ => none }
def lawS1977AAnyMantissaRow : OpenClaim := { program := "ybulkanxo", sum := "680f650e1b48e42a5b6ceb8d15f7e8ca97e0075bd330b7e5a0bad87a0a2c994c", func := "example.com/accrua/accrua.LawS1977AAnyMantissa", spec := "lawS1977AAnyMantissa", inPlace := ["math/bits.Add64", "math/big.lshVU", "math/big.addVV", "math/big.subVV", "math/bits.Sub64"], recurses := true, apart := false }
def LawS1977AAnyMantissaSaid : Prop := lawS1977AAnyMantissaRow.holds Yba.pinned (OpenSpec.ofChange lawS1977AAnyMantissaSpec)

/-- ITS FALSE NEIGHBOUR: 'it returns false'. Refute it at one input. -/
def lawS1977AAnyMantissaWrong : ChangeSpec := { name := "lawS1977AAnyMantissa", fn := fun _ => fun
  | [d1, d2, d3, d4, d5] => { results := [.lit (.bool false)], args := [d1, d2, d3, d4, d5] }
  | _ => none }
def LawS1977AAnyMantissaWrongFalsely : Prop := lawS1977AAnyMantissaRow.holds Yba.pinned (OpenSpec.ofChange lawS1977AAnyMantissaWrong)

/-- 'accrua.LawS1977BSmall': WHATEVER THE INPUT: true; the input reads as it did. -/
def lawS1977BSmallSpec : ChangeSpec := { name := "lawS1977BSmall", fn := fun _ => fun
  | [d1, d2] => { results := [.lit (.bool true)], args := [d1, d2] }
  | _ => none }
def lawS1977BSmallRow : OpenClaim := { program := "ybulkanxo", sum := "680f650e1b48e42a5b6ceb8d15f7e8ca97e0075bd330b7e5a0bad87a0a2c994c", func := "example.com/accrua/accrua.LawS1977BSmall", spec := "lawS1977BSmall", apart := false }
def LawS1977BSmallSaid : Prop := lawS1977BSmallRow.holds Yba.pinned (OpenSpec.ofChange lawS1977BSmallSpec)

/-- ITS FALSE NEIGHBOUR: 'it returns false'. Refute it at one input. -/
def lawS1977BSmallWrong : ChangeSpec := { name := "lawS1977BSmall", fn := fun _ => fun
  | [d1, d2] => { results := [.lit (.bool false)], args := [d1, d2] }
  | _ => none }
def LawS1977BSmallWrongFalsely : Prop := lawS1977BSmallRow.holds Yba.pinned (OpenSpec.ofChange lawS1977BSmallWrong)

/-- 'accrua.LawS1977BWide': WHATEVER THE INPUT: true; the input reads as it did. -/
def lawS1977BWideSpec : ChangeSpec := { name := "lawS1977BWide", fn := fun _ => fun
  | [d1, d2, d3, d4] => { results := [.lit (.bool true)], args := [d1, d2, d3, d4] }
  | _ => none }
def lawS1977BWideRow : OpenClaim := { program := "ybulkanxo", sum := "680f650e1b48e42a5b6ceb8d15f7e8ca97e0075bd330b7e5a0bad87a0a2c994c", func := "example.com/accrua/accrua.LawS1977BWide", spec := "lawS1977BWide", inPlace := ["math/big.lshVU", "math/big.addVV", "math/bits.Add64", "math/big.subVV", "math/bits.Sub64"], recurses := true, apart := false }
def LawS1977BWideSaid : Prop := lawS1977BWideRow.holds Yba.pinned (OpenSpec.ofChange lawS1977BWideSpec)

/-- ITS FALSE NEIGHBOUR: 'it returns false'. Refute it at one input. -/
def lawS1977BWideWrong : ChangeSpec := { name := "lawS1977BWide", fn := fun _ => fun
  | [d1, d2, d3, d4] => { results := [.lit (.bool false)], args := [d1, d2, d3, d4] }
  | _ => none }
def LawS1977BWideWrongFalsely : Prop := lawS1977BWideRow.holds Yba.pinned (OpenSpec.ofChange lawS1977BWideWrong)

end Rows
end Go.Proofs.Ybulkanxo
