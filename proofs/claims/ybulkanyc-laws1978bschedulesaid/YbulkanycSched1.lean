/-
  LawS1978BSchedule: its leaves: zzs1978bspan, event.before, fifo.first.
-/
import Derived.Test.YbulkanycTime
import Derived.BigQuiet
import Derived.OwnWalk
import Derived.Deep.RegionLaw
import Derived.LaidEqlPtr
namespace Go.Proofs.Ybulkanyc
open Go.RowKit
set_option linter.unusedVariables false

theorem info112 : (Yba.prog.info? 112).map (fun i => (i.zero, i.size, i.bytes)) = some (some (.agg #[.int .i64 0, .int .u64 0, .nilIface]), 3, 32) := by kernel_rfl
theorem info100 : (Yba.prog.info? 100).map (fun i => (i.zero, i.size, i.bytes)) = some (some (.agg #[.int .i64 0, .slice none 0 0, .int .i64 0, .int .i64 0]), 4, 48) := by kernel_rfl
theorem info3 : (Yba.prog.info? 3).map (fun i => (i.zero, i.size, i.bytes)) = some (some (.int .i64 0), 1, 8) := by kernel_rfl
theorem info102 : (Yba.prog.info? 102).map (fun i => (i.zero, i.size, i.bytes)) = some (some (.pointer none), 1, 8) := by kernel_rfl

/-- int64(b) % 7 -/
theorem span_any (b : Int) (w : World) (h1 : -128 ≤ b) (h2 : b ≤ 127) :
    Calls Yba.prog 11 #[.int .i8 b] w fun e w' => .returned (.int .i64 (b.tmod 7)) = e ∧ w = w' := by
  go_enter Yba.func11, Yba.ntmps11
  go_wp2
  go_ret
  exact ⟨rfl, rfl⟩

/-- One event ahead of another: the time, then the order. -/
def bf (a x b y : Int) : Bool := decide (a < b) || (a == b && decide (x < y))

theorem before_any (a x b y : Int) (d e : Value) (w : World) :
    Calls Yba.prog 13 #[.agg #[.int .i64 a, .int .u64 x, d], .agg #[.int .i64 b, .int .u64 y, e]] w fun r w' => .returned (.bool (bf a x b y)) = r ∧ Fr (fun _ => False) w w' := by
  by_cases h1 : a < b
  · have hb : bf a x b y = true := by simp [bf, h1]
    rw [hb]
    go_enter Yba.func13, Yba.ntmps13
    go_wp2
    go_ret
    exact ⟨rfl, ((Fr.refl _ w).alloc _).alloc _⟩
  · by_cases h2 : a = b
    · by_cases h3 : x < y
      · have hb : bf a x b y = true := by simp [bf, h2, h3]
        rw [hb]
        have h2' : (a == b) = true := by simp [h2]
        go_enter Yba.func13, Yba.ntmps13
        go_wp2
        go_ret
        exact ⟨rfl, ((Fr.refl _ w).alloc _).alloc _⟩
      · have hb : bf a x b y = false := by simp [bf, h2, h3]
        rw [hb]
        have h2' : (a == b) = true := by simp [h2]
        go_enter Yba.func13, Yba.ntmps13
        go_wp2
        go_ret
        exact ⟨rfl, ((Fr.refl _ w).alloc _).alloc _⟩
    · have hb : bf a x b y = false := by simp [bf, h1, h2]
      rw [hb]
      have h2' : (a == b) = false := by simp [h2]
      go_enter Yba.func13, Yba.ntmps13
      go_wp2
      go_ret
      exact ⟨rfl, ((Fr.refl _ w).alloc _).alloc _⟩

theorem first_any (b o g len cap : Nat) (w : World) (hr : w.cell? ⟨b, o, none⟩ = some (.slice (some ⟨g, 0, none⟩) len cap)) (hh : w.cell? ⟨b, o + 1, none⟩ = some (.int .i64 0)) (hl : 0 < len) :
    Calls Yba.prog 14 #[.pointer (some ⟨b, o, none⟩)] w fun r w' => .returned (.pointer (some ⟨g, 0, none⟩)) = r ∧ ∃ n, w' = w.drewN n := by
  go_enter Yba.func14, Yba.ntmps14
  go_wp2
  go_quiet (fail)
  go_wp2
  go_ret
  exact ⟨rfl, nq, rfl⟩
end Go.Proofs.Ybulkanyc
