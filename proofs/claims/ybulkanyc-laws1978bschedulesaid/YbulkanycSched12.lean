/-
  LawS1978BSchedule: slices.Index, run.seen.
-/
import Derived.Test.YbulkanycSched11
namespace Go.Proofs.Ybulkanyc
open Go.RowKit
set_option linter.unusedVariables false

theorem index_any (R : Nat) (v : Int) (w : World) (hc : ∀ j, j < 8 → ∃ z : Int, w.cell? ⟨R, 11 + j, none⟩ = some (.int .i64 z)) :
    Calls Yba.prog 27 #[.slice (some ⟨R, 11, none⟩) 8 8, .int .i64 v] w fun e w' => ∃ r : Int, .returned (.int .i64 r) = e ∧ w = w' ∧ (r = -1 ∨ ∃ j : Nat, j < 8 ∧ r = (j : Int)) := by
  have HC := hid hc
  clear hc
  go_enter Yba.func27, Yba.ntmps27
  go_wp2_with fail
  go_loopw [8] (fun v8 wq => ∃ j : Nat, j ≤ 8 ∧ v8 = .int .i64 (j : Int) ∧ wq = w) (fun v8 _ => 8 - (intOf v8).toNat)
  case atStart => exact ⟨0, by omega, rfl, rfl⟩
  case round =>
    obtain ⟨j, hj, rfl, hw⟩ := hrel
    subst hw
    by_cases h8 : j < 8
    · obtain ⟨z, hz⟩ := HC.out j h8
      have ij : (j : Int) < 8 := by omega
      by_cases he : v = z
      · have he' : (v == z) = true := by simp [he]
        go_wp2_with fail
        go_ret
        exact ⟨_, rfl, rfl, .inr ⟨j, h8, rfl⟩⟩
      · have he' : (v == z) = false := by simp [he]
        go_wp2_with fail
        go_roundw
        case rel => exact ⟨j + 1, by omega, by go_num, trivial⟩
        case measure => simp [intOf]; omega
    · have ij : ¬ (j : Int) < 8 := by omega
      go_wp2_with fail
      go_ret
      exact ⟨-1, rfl, rfl, .inl rfl⟩

/-- The cells of a run, as far as they matter. -/
structure RunOk (rc : Array Value) (since : Int) (qv : Value) (begun : Nat) (lv hv : Value) : Prop where
  size : rc.size = 26
  c3 : rc[3]? = some (.int .i64 since)
  c5 : rc[5]? = some qv
  c6 : rc[6]? = some (.int .u64 (begun : Int))
  c9 : rc[9]? = some lv
  c10 : rc[10]? = some hv
  sp : ∀ j, j < 8 → ∃ z : Int, rc[11 + j]? = some (.int .i64 z)
  sa : ∃ a : Nat, a < 8 ∧ rc[19]? = some (.int .i64 (a : Int))
theorem rset (rc : Array Value) (i j : Nat) (v : Value) (h : i < rc.size) : (rc.setIfInBounds i v)[j]? = if i = j then some v else rc[j]? := by
  rw [Array.getElem?_setIfInBounds]
  by_cases e : i = j
  · subst e; simp [h]
  · simp [e]
theorem RunOk.setQ {rc : Array Value} {since : Int} {qv : Value} {begun : Nat} {lv hv : Value} (h : RunOk rc since qv begun lv hv) (qv' : Value) : RunOk (rc.setIfInBounds 5 qv') since qv' begun lv hv := by
  have hs := h.size
  have g := fun j => rset rc 5 j qv' (by omega)
  refine ⟨by simpa using h.size, by rw [g]; exact h.c3, by rw [g]; rfl, by rw [g]; exact h.c6, by rw [g]; exact h.c9, by rw [g]; exact h.c10, ?_, ?_⟩
  · intro j hj
    rw [g, if_neg (by omega)]
    exact h.sp j hj
  · rw [g]; exact h.sa
theorem RunOk.setB {rc : Array Value} {since : Int} {qv : Value} {begun : Nat} {lv hv : Value} (h : RunOk rc since qv begun lv hv) (b : Nat) : RunOk (rc.setIfInBounds 6 (.int .u64 (b : Int))) since qv b lv hv := by
  have hs := h.size
  have g := fun j => rset rc 6 j (.int .u64 (b : Int)) (by omega)
  refine ⟨by simpa using h.size, by rw [g]; exact h.c3, by rw [g]; exact h.c5, by rw [g]; rfl, by rw [g]; exact h.c9, by rw [g]; exact h.c10, ?_, ?_⟩
  · intro j hj
    rw [g, if_neg (by omega)]
    exact h.sp j hj
  · rw [g]; exact h.sa
theorem RunOk.setL {rc : Array Value} {since : Int} {qv : Value} {begun : Nat} {lv hv : Value} (h : RunOk rc since qv begun lv hv) (lv' : Value) : RunOk (rc.setIfInBounds 9 lv') since qv begun lv' hv := by
  have hs := h.size
  have g := fun j => rset rc 9 j lv' (by omega)
  refine ⟨by simpa using h.size, by rw [g]; exact h.c3, by rw [g]; exact h.c5, by rw [g]; exact h.c6, by rw [g]; rfl, by rw [g]; exact h.c10, ?_, ?_⟩
  · intro j hj
    rw [g, if_neg (by omega)]
    exact h.sp j hj
  · rw [g]; exact h.sa
theorem RunOk.setH {rc : Array Value} {since : Int} {qv : Value} {begun : Nat} {lv hv : Value} (h : RunOk rc since qv begun lv hv) (hv' : Value) : RunOk (rc.setIfInBounds 10 hv') since qv begun lv hv' := by
  have hs := h.size
  have g := fun j => rset rc 10 j hv' (by omega)
  refine ⟨by simpa using h.size, by rw [g]; exact h.c3, by rw [g]; exact h.c5, by rw [g]; exact h.c6, by rw [g]; exact h.c9, by rw [g]; rfl, ?_, ?_⟩
  · intro j hj
    rw [g, if_neg (by omega)]
    exact h.sp j hj
  · rw [g]; exact h.sa
theorem RunOk.setS {rc : Array Value} {since : Int} {qv : Value} {begun : Nat} {lv hv : Value} (h : RunOk rc since qv begun lv hv) (i : Nat) (hi : i < 8) (z : Int) : RunOk (rc.setIfInBounds (11 + i) (.int .i64 z)) since qv begun lv hv := by
  have hs := h.size
  have g := fun j => rset rc (11 + i) j (.int .i64 z) (by omega)
  refine ⟨by simpa using h.size, by rw [g, if_neg (by omega)]; exact h.c3, by rw [g, if_neg (by omega)]; exact h.c5, by rw [g, if_neg (by omega)]; exact h.c6, by rw [g, if_neg (by omega)]; exact h.c9, by rw [g, if_neg (by omega)]; exact h.c10, ?_, ?_⟩
  · intro j hj
    rw [g]
    by_cases e : 11 + i = 11 + j
    · rw [if_pos e]; exact ⟨z, rfl⟩
    · rw [if_neg e]; exact h.sp j hj
  · rw [g, if_neg (by omega)]; exact h.sa
theorem RunOk.setA {rc : Array Value} {since : Int} {qv : Value} {begun : Nat} {lv hv : Value} (h : RunOk rc since qv begun lv hv) (a : Nat) (ha : a < 8) : RunOk (rc.setIfInBounds 19 (.int .i64 (a : Int))) since qv begun lv hv := by
  have hs := h.size
  have g := fun j => rset rc 19 j (.int .i64 (a : Int)) (by omega)
  refine ⟨by simpa using h.size, by rw [g]; exact h.c3, by rw [g]; exact h.c5, by rw [g]; exact h.c6, by rw [g]; exact h.c9, by rw [g]; exact h.c10, ?_, ?_⟩
  · intro j hj
    rw [g, if_neg (by omega)]
    exact h.sp j hj
  · rw [g]; exact ⟨a, ha, rfl⟩
end Go.Proofs.Ybulkanyc
