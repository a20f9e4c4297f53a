/-
  No cell of these rows narrows 'for every input' (looked for: loops, veiled, ifaces, maps, wideKeys, modest, calm, conditions, laid).
  DERIVED. THE GIVEN ROWS OF THIS SEAT. 3 by the template 'for every input the law returns true; each argument reads behind the call as it read before'; 0 by the template 'total and deterministic' (their statements: YbulkanycTotals.lean).
  GIVEN WITH THE SEED: the statements are not yours to turn. If you find one false, say at which input.
  Laid BY PROGRAM, IN A SANDBOX (cutbox-rows.mjs): the forced cells as the released guide's own fill.sh prints them over the translation 27c5a22cdf12922b… (all of the seat's roots in one cut). By AI agents, Wed Nov 11 2026. No macro, syntax, notation, axiom, sorry.
-/
import Derived.Test.YbulkanycChecked
import GoSem.Claim
import GoSem.ClaimJoined
import GoSem.ClaimMapViews
import Derived.JoinedTies
import Derived.KernelRfl
namespace Go.Proofs.Ybulkanyc
/- THE CELL 'sum', in the pinned program and in every row, IS THE sha256 OF THE DUMP (.gsa) THAT YbulkanycProg.lean LOADS. Nothing in Lean hashes anything: it is a label: what it is worth is what the hold of that sum in a sandbox is worth. -/
noncomputable def Yba.pinned : Pinned := { name := "ybulkanyc", sum := "27c5a22cdf12922b93cea382c58547f863f22ca0cfb0a02ddd090218841149ba", checked := Yba.checked }
namespace Rows
def none {H : Type} : Left H := { results := [], args := [] }

/-- 'viewer.LawS1978AUnfollowed': WHATEVER THE INPUT: true; the input reads as it did. -/
def lawS1978AUnfollowedSpec : ChangeSpec := { name := "lawS1978AUnfollowed", fn := fun _ => fun
  | [d1, d2, d3, d4, d5] => { results := [.lit (.bool true)], args := [d1, d2, d3, d4, d5] }
  | _ => none }
def lawS1978AUnfollowedRow : OpenClaim := { program := "ybulkanyc", sum := "27c5a22cdf12922b93cea382c58547f863f22ca0cfb0a02ddd090218841149ba", func := "example.com/swarmreel/swarmreel/internal/viewer.LawS1978AUnfollowed", spec := "lawS1978AUnfollowed", plainKeys := false, apart := false }
def LawS1978AUnfollowedSaid : Prop := lawS1978AUnfollowedRow.holds Yba.pinned (OpenSpec.ofChange lawS1978AUnfollowedSpec)

/-- ITS FALSE NEIGHBOUR: 'it returns false'. Refute it at one input. -/
def lawS1978AUnfollowedWrong : ChangeSpec := { name := "lawS1978AUnfollowed", fn := fun _ => fun
  | [d1, d2, d3, d4, d5] => { results := [.lit (.bool false)], args := [d1, d2, d3, d4, d5] }
  | _ => none }
def LawS1978AUnfollowedWrongFalsely : Prop := lawS1978AUnfollowedRow.holds Yba.pinned (OpenSpec.ofChange lawS1978AUnfollowedWrong)

/-- 'viewer.LawS1978AFollowed': WHATEVER THE INPUT: true; the input reads as it did. -/
def lawS1978AFollowedSpec : ChangeSpec := { name := "lawS1978AFollowed", fn := fun _ => fun
  | [d1, d2, d3, d4, d5] => { results := [.lit (.bool true)], args := [d1, d2, d3, d4, d5] }
  | _ => none }
def lawS1978AFollowedRow : OpenClaim := { program := "ybulkanyc", sum := "27c5a22cdf12922b93cea382c58547f863f22ca0cfb0a02ddd090218841149ba", func := "example.com/swarmreel/swarmreel/internal/viewer.LawS1978AFollowed", spec := "lawS1978AFollowed", plainKeys := false, apart := false }
def LawS1978AFollowedSaid : Prop := lawS1978AFollowedRow.holds Yba.pinned (OpenSpec.ofChange lawS1978AFollowedSpec)

/-- ITS FALSE NEIGHBOUR: 'it returns false'. Refute it at one input. -/
def lawS1978AFollowedWrong : ChangeSpec := { name := "lawS1978AFollowed", fn := fun _ => fun
  | [d1, d2, d3, d4, d5] => { results := [.lit (.bool false)], args := [d1, d2, d3, d4, d5] }
  | _ => none }
def LawS1978AFollowedWrongFalsely : Prop := lawS1978AFollowedRow.holds Yba.pinned (OpenSpec.ofChange lawS1978AFollowedWrong)

/-- 'sim.LawS1978BSchedule': WHATEVER THE INPUT: true; the input reads as it did. -/
def lawS1978BScheduleSpec : ChangeSpec := { name := "lawS1978BSchedule", fn := fun _ => fun
  | [d1, d2, d3] => { results := [.lit (.bool true)], args := [d1, d2, d3] }
  | _ => none }
def lawS1978BScheduleRow : OpenClaim := { program := "ybulkanyc", sum := "27c5a22cdf12922b93cea382c58547f863f22ca0cfb0a02ddd090218841149ba", func := "example.com/swarmreel/swarmreel/internal/sim.LawS1978BSchedule", spec := "lawS1978BSchedule", plainKeys := false, apart := false }
def LawS1978BScheduleSaid : Prop := lawS1978BScheduleRow.holds Yba.pinned (OpenSpec.ofChange lawS1978BScheduleSpec)

/-- ITS FALSE NEIGHBOUR: 'it returns false'. Refute it at one input. -/
def lawS1978BScheduleWrong : ChangeSpec := { name := "lawS1978BSchedule", fn := fun _ => fun
  | [d1, d2, d3] => { results := [.lit (.bool false)], args := [d1, d2, d3] }
  | _ => none }
def LawS1978BScheduleWrongFalsely : Prop := lawS1978BScheduleRow.holds Yba.pinned (OpenSpec.ofChange lawS1978BScheduleWrong)

end Rows
end Go.Proofs.Ybulkanyc
