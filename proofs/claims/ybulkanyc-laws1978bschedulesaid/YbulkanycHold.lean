/-
  fileSet.word, fileSet.add, schedule.holds.
-/
import Derived.Test.YbulkanycTime
import Derived.BigQuiet
import Derived.Deep.QuietTactic
namespace Go.Proofs.Ybulkanyc
open Go.RowKit
set_option linter.unusedVariables false
set_option linter.unusedSectionVars false

theorem word_low (b o p : Nat) (w : World) (hb : b < w.heap.size) (hp : p < 64) (hq : (p : Int) / 64 = 0) :
    Calls Yba.prog 25 #[.pointer (some ⟨b, o, none⟩), .int .i64 (p : Int)] w fun e w' => e = .returned (.pointer (some ⟨b, o, none⟩)) ∧ w' = w := by
  go_enter Yba.func25, Yba.ntmps25
  go_wp2
  go_ret
  exact ⟨rfl, rfl⟩
section
variable (b o h p : Nat) (m : Int) (w : World) (hb : b < w.heap.size) (hh : h < w.heap.size) (hp : p < 64) (hq : (p : Int) / 64 = 0) (hr : (p : Int) % 64 = (p : Int)) (h4 : w.cell? ⟨h, 8, none⟩ = some (.int .i64 (p : Int)))
    (hw : w.cell? ⟨b, o, none⟩ = some (.int .u64 m))
include hb hh hp hq hr h4 hw

theorem add_old (hbit : (bits .and .u64 m (IntKind.u64.wrap (2 ^ p)) != 0) = true) :
    Calls Yba.prog 19 #[.pointer (some ⟨b, o, none⟩), .pointer (some ⟨h, 0, none⟩)] w fun e w' => .returned (.bool false) = e ∧ ∃ n, w.drewN n = w' := by
  go_enter Yba.func19, Yba.ntmps19
  go_wp2_with fail
  go_quiet ((go_at_call 25; exact Calls.quiet_of_same (word_low _ _ _ _ hb hp hq)))
  go_wp2_with fail
  go_ret
  exact ⟨rfl, nq, rfl⟩
theorem add_new (c : Int) (hbit : (bits .and .u64 m (IntKind.u64.wrap (2 ^ p)) != 0) = false) (hf : w.frozen? ⟨b, o, none⟩ = false) (hf2 : w.frozen? ⟨b, o + 5, none⟩ = false) (hc : w.cell? ⟨b, o + 5, none⟩ = some (.int .i64 c)) (hc0 : 0 ≤ c) (hc1 : c ≤ 2000) :
    Calls Yba.prog 19 #[.pointer (some ⟨b, o, none⟩), .pointer (some ⟨h, 0, none⟩)] w fun e w' => .returned (.bool true) = e ∧ ∃ n, ((w.drewN n).setCell ⟨b, o, none⟩ (.int .u64 (bits .or .u64 m (IntKind.u64.wrap (2 ^ p))))).setCell ⟨b, o + 5, none⟩ (.int .i64 (c + 1)) = w' := by
  go_enter Yba.func19, Yba.ntmps19
  go_wp2_with fail
  go_quiet ((go_at_call 25; exact Calls.quiet_of_same (word_low _ _ _ _ hb hp hq)))
  go_wp2_with fail
  go_ret
  exact ⟨rfl, nq, rfl⟩
end
end Go.Proofs.Ybulkanyc
