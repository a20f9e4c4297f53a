/-
  THE WALK OF LawS1975BModel.
-/
import Derived.Test.YbulkanwmDoorPlain
namespace Go.Proofs.YbulkanwmDoor
open Go.RowKit

theorem TabAt.alloc {w : World} (h : TabAt w) (hw : 0 < w.heap.size) (o : Obj) : TabAt (w.alloc o) := by
  intro j hj
  rw [World.cell?_alloc_past _ _ _ (by simpa using hw)]
  exact h j hj

theorem ne_b {g : Nat} (h : 0 < g) : ((g : Int) != 0) = true := by simp; omega
theorem hid {p : Prop} (h : p) : Hid p := h
theorem sat_free {rows used oneOf k : Nat} (hg : used &&& oneOf = 0) : sat rows used oneOf k = (rows.testBit k && !used.testBit k) := by
  unfold sat; simp [hg]
theorem sat_block {rows used oneOf k : Nat} (hg : ¬ used &&& oneOf = 0) : sat rows used oneOf k = (rows.testBit k && !used.testBit k && !oneOf.testBit k) := by
  unfold sat
  have hb : (used &&& oneOf == 0) = false := by simpa using hg
  simp [hb]
theorem low_step {p : Nat → Bool} {k : Nat} (h : ∀ j, j < k → p j = false) (hk : p k = false) : ∀ j, j < k + 1 → p j = false := by
  intro j hj
  by_cases e : j = k
  · rw [e]; exact hk
  · exact h j (by omega)

set_option maxHeartbeats 1000000 in
theorem model_free (rows used oneOf : Nat) (hr : rows < 18446744073709551616) (hu : used < 18446744073709551616) (ho : oneOf < 18446744073709551616) (w : World) (hT : TabAt w) (hw : 0 < w.heap.size) (hg : used &&& oneOf = 0) :
    Calls Ybad.prog 3 #[.int .u64 rows, .int .u64 used, .int .u64 oneOf] w fun e w' => e = .returned (.bool true) ∧ Grown w w' := by
  have h2 : bits BinOp.and IntKind.u64 (used : Int) (oneOf : Int) = 0 := by rw [u64_and_nat used oneOf hu ho, hg]; rfl
  have HG := hid hg
  clear hg
  go_enter Ybad.func3, Ybad.ntmps3
  go_wp2_with fail
  refine (next_any w.heap.size rows used oneOf hr hu ho _ (hT.alloc hw _) (by simp)).mono ?_
  rintro e w' ⟨rfl, rfl⟩
  go_wp2
  go_loop [9, 11] (fun t i => ∃ k : Nat, k ≤ 64 ∧ i = .int .i64 k ∧ t = .int .i64 (-1) ∧ Hid (∀ j, j < k → sat rows used oneOf j = false))
    (fun _ i => 64 - (intOf i).toNat)
  case atStart => exact ⟨0, Nat.zero_le _, rfl, rfl, hid (by simp)⟩
  case round =>
    obtain ⟨k, hk, rfl, rfl, hj⟩ := hrel
    by_cases hlt : k < 64
    · cases hR : rows.testBit k
      · have b1 := bit_off rows k hr hlt hR
        have H1 : Hid (sat rows used oneOf k = false) := hid (by rw [sat_free HG.out, hR]; rfl)
        clear hR
        go_wp2
        go_round
        case rel => exact ⟨k + 1, by omega, by go_num, rfl, hid (low_step hj.out H1.out)⟩
        case measure => simp [intOf]; omega
      · obtain ⟨p, hp, b1⟩ := bit_on rows k hr hlt hR
        cases hU : used.testBit k
        · have b2 := bit_off used k hu hlt hU
          have H1 : Hid (nextN rows used oneOf = (k : Int)) := hid (next_hit rows used oneOf k hr hu ho hlt (by rw [sat_free HG.out, hR, hU]; rfl) hj.out)
          clear hR hU
          go_wp2
          go_ret
          exact ⟨by rw [H1.out]; simp, (Grown.refl _).alloc _ _⟩
        · obtain ⟨q, hq, b2⟩ := bit_on used k hu hlt hU
          have H1 : Hid (sat rows used oneOf k = false) := hid (by rw [sat_free HG.out, hR, hU]; rfl)
          clear hR hU
          go_wp2
          go_round
          case rel => exact ⟨k + 1, by omega, by go_num, rfl, hid (low_step hj.out H1.out)⟩
          case measure => simp [intOf]; omega
    · have H1 : Hid (nextN rows used oneOf = -1) := hid (next_miss rows used oneOf hr hu ho (fun j h => hj.out j (by omega)))
      go_wp2
      go_ret
      exact ⟨by rw [H1.out]; rfl, (Grown.refl _).alloc _ _⟩

set_option maxHeartbeats 1000000 in
theorem model_block (rows used oneOf : Nat) (hr : rows < 18446744073709551616) (hu : used < 18446744073709551616) (ho : oneOf < 18446744073709551616) (w : World) (hT : TabAt w) (hw : 0 < w.heap.size) (hg : ¬ used &&& oneOf = 0) :
    Calls Ybad.prog 3 #[.int .u64 rows, .int .u64 used, .int .u64 oneOf] w fun e w' => e = .returned (.bool true) ∧ Grown w w' := by
  obtain ⟨g, hg0, h2⟩ : ∃ g : Nat, 0 < g ∧ bits BinOp.and IntKind.u64 (used : Int) (oneOf : Int) = (g : Int) := ⟨_, by omega, u64_and_nat used oneOf hu ho⟩
  have HG := hid hg
  clear hg
  have hgb : ((g : Int) != 0) = true := ne_b hg0
  go_enter Ybad.func3, Ybad.ntmps3
  go_wp2_with fail
  refine (next_any w.heap.size rows used oneOf hr hu ho _ (hT.alloc hw _) (by simp)).mono ?_
  rintro e w' ⟨rfl, rfl⟩
  go_wp2
  go_loop [9, 11] (fun t i => ∃ k : Nat, k ≤ 64 ∧ i = .int .i64 k ∧ t = .int .i64 (-1) ∧ Hid (∀ j, j < k → sat rows used oneOf j = false))
    (fun _ i => 64 - (intOf i).toNat)
  case atStart => exact ⟨0, Nat.zero_le _, rfl, rfl, hid (by simp)⟩
  case round =>
    obtain ⟨k, hk, rfl, rfl, hj⟩ := hrel
    by_cases hlt : k < 64
    · cases hR : rows.testBit k
      · have b1 := bit_off rows k hr hlt hR
        have H1 : Hid (sat rows used oneOf k = false) := hid (by rw [sat_block HG.out, hR]; rfl)
        clear hR
        go_wp2
        go_round
        case rel => exact ⟨k + 1, by omega, by go_num, rfl, hid (low_step hj.out H1.out)⟩
        case measure => simp [intOf]; omega
      · obtain ⟨p, hp, b1⟩ := bit_on rows k hr hlt hR
        cases hU : used.testBit k
        · have b2 := bit_off used k hu hlt hU
          cases hO : oneOf.testBit k
          · have b3 := bit_off oneOf k ho hlt hO
            have H1 : Hid (nextN rows used oneOf = (k : Int)) := hid (next_hit rows used oneOf k hr hu ho hlt (by rw [sat_block HG.out, hR, hU, hO]; rfl) hj.out)
            clear hR hU hO
            go_wp2
            go_ret
            exact ⟨by rw [H1.out]; simp, (Grown.refl _).alloc _ _⟩
          · obtain ⟨q, hq, b3⟩ := bit_on oneOf k ho hlt hO
            have hqb : ((q : Int) != 0) = true := ne_b hq
            have H1 : Hid (sat rows used oneOf k = false) := hid (by rw [sat_block HG.out, hR, hU, hO]; rfl)
            clear hR hU hO
            go_wp2
            go_round
            case rel => exact ⟨k + 1, by omega, by go_num, rfl, hid (low_step hj.out H1.out)⟩
            case measure => simp [intOf]; omega
        · obtain ⟨q, hq, b2⟩ := bit_on used k hu hlt hU
          have H1 : Hid (sat rows used oneOf k = false) := hid (by rw [sat_block HG.out, hR, hU]; rfl)
          clear hR hU
          go_wp2
          go_round
          case rel => exact ⟨k + 1, by omega, by go_num, rfl, hid (low_step hj.out H1.out)⟩
          case measure => simp [intOf]; omega
    · have H1 : Hid (nextN rows used oneOf = -1) := hid (next_miss rows used oneOf hr hu ho (fun j h => hj.out j (by omega)))
      go_wp2
      go_ret
      exact ⟨by rw [H1.out]; rfl, (Grown.refl _).alloc _ _⟩

theorem model_any (rows used oneOf : Nat) (hr : rows < 18446744073709551616) (hu : used < 18446744073709551616) (ho : oneOf < 18446744073709551616) (w : World) (hT : TabAt w) (hw : 0 < w.heap.size) :
    Calls Ybad.prog 3 #[.int .u64 rows, .int .u64 used, .int .u64 oneOf] w fun e w' => e = .returned (.bool true) ∧ Grown w w' := by
  by_cases hg : used &&& oneOf = 0
  · exact model_free rows used oneOf hr hu ho w hT hw hg
  · exact model_block rows used oneOf hr hu ho w hT hw hg
end Go.Proofs.YbulkanwmDoor
