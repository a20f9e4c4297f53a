/-
  math/big.nat: norm, make.
-/
import Derived.Test.YbulkanxoSubVV
namespace Go.Proofs.Ybulkanxo
open Go.RowKit
set_option linter.unusedVariables false

theorem normStep (cs : List Nat) (k : Nat) (hk : 0 < k) (hl : k ≤ cs.length) (h0 : cs.getD (k - 1) 0 = 0) : val (cs.take (k - 1)) = val (cs.take k) := by
  obtain ⟨j, rfl⟩ : ∃ j, k = j + 1 := ⟨k - 1, by omega⟩
  rw [val_take_succ cs j (by omega)]
  simp at h0 ⊢
  rw [h0]; simp

/-- The first k words have no leading 0. -/
def Normed (cs : List Nat) (k : Nat) : Prop := 0 < k → cs.getD (k - 1) 0 ≠ 0

set_option maxHeartbeats 400000 in
theorem norm_any (g n kz : Nat) (cs : List Nat) (w : World) (hg : w.heap[g]? = some (row cs)) (hl : n ≤ cs.length) (hkz : n ≤ kz) (hn : n ≤ 1000) :
    Calls Yba.prog 48 #[.slice (some ⟨g, 0, none⟩) n kz] w fun e w' =>
      ∃ k, e = .returned (.slice (some ⟨g, 0, none⟩) k kz) ∧ k ≤ n ∧ val (cs.take k) = val (cs.take n) ∧ Normed cs k ∧ w' = w := by
  go_enter Yba.func48, Yba.ntmps48
  go_wp2
  go_loop [3] (fun i => ∃ k : Nat, k ≤ n ∧ i = .int .i64 k ∧ Hid (val (cs.take k) = val (cs.take n))) (fun i => (intOf i).toNat)
  case atStart => exact ⟨n, Nat.le_refl _, rfl, hid rfl⟩
  case round =>
    obtain ⟨k, hk, rfl, hv⟩ := hrel
    by_cases h0 : 0 < k
    · obtain ⟨j, rfl⟩ : ∃ j, k = j + 1 := ⟨k - 1, by omega⟩
      have hc : w.cell? ⟨g, j, none⟩ = some (.int .u64 (cs.getD j 0 : Nat)) := row_cell hg (by omega)
      obtain ⟨d, hd⟩ : ∃ d, d = cs.getD j 0 := ⟨_, rfl⟩
      rw [← hd] at hc
      have HD := hid hd
      clear hd
      by_cases hz : d = 0
      · subst hz
        go_wp2
        go_round
        case rel => exact ⟨j, by omega, by go_num, hid ((normStep cs (j + 1) (by omega) (by omega) HD.out.symm).trans hv.out)⟩
        case measure => simp [intOf]
      · have hz' : ((d : Int) == 0) = false := by simp; omega
        go_wp2
        go_ret
        exact ⟨j + 1, rfl, hk, hv.out, (fun _ => by have := HD.out; rw [Nat.add_sub_cancel, ← this]; exact hz), rfl⟩
    · obtain rfl : k = 0 := by omega
      go_wp2
      go_ret
      exact ⟨0, rfl, hk, hv.out, fun h => absurd h (by omega), rfl⟩

/-! ### make -/
set_option maxHeartbeats 400000 in
theorem make_reuse (g n m : Nat) (cs : List Nat) (w : World) (hm : m ≤ cs.length) :
    Calls Yba.prog 43 #[.slice (some ⟨g, 0, none⟩) n cs.length, .int .i64 m] w fun e w' => e = .returned (.slice (some ⟨g, 0, none⟩) m cs.length) ∧ w' = w := by
  go_enter Yba.func43, Yba.ntmps43
  go_wp2
  go_ret
  exact ⟨rfl, rfl⟩
theorem info51 : (Yba.prog.info? 51).map (fun i => (i.zero, i.size, i.bytes)) = some (some (.int .u64 0), 1, 8) := by kernel_rfl
theorem made_words (c : Nat) : Obj.cells (madeCells (Value.int .u64 0).cells (c * 1)) 51 = row (List.replicate c 0) := by
  have e : madeCells (Value.int .u64 0).cells (c * 1) = (List.replicate c (Value.int .u64 0)).toArray := by
    apply Array.ext'
    show (madeCells #[Value.int .u64 0] (c * 1)).toList = _
    rw [toList_madeCells_one, Nat.mul_one]
  rw [e]
  simp [row, wv]
theorem make_run (n : Nat) (C : Int) (c : Nat) (hC : C = (c : Int)) (hnc : n ≤ c) (hc : c ≤ 1000000) (w : World) :
    (Instr.makeSlice 35 (.int .i64 (n : Int)) (.int .i64 C)).run Yba.prog w = .ok (.slice (some ⟨w.heap.size, 0, none⟩) n c) (w.alloc (row (List.replicate c 0))) := by
  obtain ⟨i, hi, hz0, hz1, hz2⟩ := info_parts info51
  subst hC
  have := run_make (P := Yba.prog) (w := w) 35 51 i (.int .u64 0) Yba.underlying35 hi hz0 .i64 .i64 (n : Int) (c : Int) (by omega) (by omega) (by rw [hz2]; omega) (by omega)
  rw [this, hz1]
  simp only [Int.toNat_natCast, made_words]
set_option maxHeartbeats 400000 in
theorem make_one (a : Option Addr) (k : Nat) (w : World) :
    Calls Yba.prog 43 #[.slice a k 0, .int .i64 1] w fun e w' => e = .returned (.slice (some ⟨w.heap.size, 0, none⟩) 1 1) ∧ w' = w.alloc (row [0]) := by
  have hm : ∀ wx, (Instr.makeSlice 35 (.int .i64 1) (.int .i64 1)).run Yba.prog wx = .ok (.slice (some ⟨wx.heap.size, 0, none⟩) 1 1) (wx.alloc (row [0])) := fun wx => make_run 1 1 1 rfl (by omega) (by omega) wx
  go_enter Yba.func43, Yba.ntmps43
  go_wp2_with (simp only [hm])
  go_ret
  exact ⟨rfl, rfl⟩
set_option maxHeartbeats 400000 in
theorem make_more (a : Option Addr) (k cap n : Nat) (hcap : cap < n) (h1 : 1 < n) (hn : n ≤ 1000) (w : World) :
    Calls Yba.prog 43 #[.slice a k cap, .int .i64 n] w fun e w' => e = .returned (.slice (some ⟨w.heap.size, 0, none⟩) n (n + 4)) ∧ w' = w.alloc (row (List.replicate (n + 4) 0)) := by
  have hm := fun wx => make_run n ((n : Int) + 4) (n + 4) (by omega) (by omega) (by omega) wx
  have h1' : ((n : Int) == 1) = false := by simp; omega
  go_enter Yba.func43, Yba.ntmps43
  go_wp2_with (simp only [hm])
  go_ret
  exact ⟨rfl, rfl⟩
theorem make_zero (w : World) :
    Calls Yba.prog 43 #[.slice none 0 0, .int .i64 0] w fun e w' => e = .returned (.slice none 0 0) ∧ w' = w := by
  go_enter Yba.func43, Yba.ntmps43
  go_wp2
  go_ret
  exact ⟨rfl, rfl⟩
end Go.Proofs.Ybulkanxo
