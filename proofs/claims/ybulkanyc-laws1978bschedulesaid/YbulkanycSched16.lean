/-
  LawS1978BSchedule: zzs1978bok.
-/
import Derived.Test.YbulkanycSched15
namespace Go.Proofs.Ybulkanyc
open Go.RowKit
set_option linter.unusedVariables false

theorem info105 : (Yba.prog.info? 105).map (fun i => i.size) = some 1 := by kernel_rfl
theorem cmp102 : Yba.t102.comparable = true := by kernel_rfl
theorem ieq_same (w : World) (a : Addr) : (binOp .eql 110 (.iface 102 (.pointer (some a))) (.iface 102 (.pointer (some a)))).run Yba.prog w = .ok (.bool true) w := by
  have h' : ∀ d : Nat, (Op.equalIn (d + 2) 110 (.iface 102 (.pointer (some a))) (.iface 102 (.pointer (some a)))).run Yba.prog w = .ok true w := fun d => by
    simp [Op.equalIn, run_underlying Yba.underlying110, cmp102, run_sameAddr_same]
  simp only [binOp]
  simp [Op.equal, Op.maxDepth, h' 9998]
theorem add_blk (x : Addr) (k : Nat) : (x.add k).block = x.block := by unfold Addr.add; split <;> rfl

set_option maxHeartbeats 1000000 in
theorem ok_any (A : Nat → Int) (ab : Nat → Nat) (since : Int) (x : Addr) (n c k Ab Sb : Nat) (bs : Int) (sc : Array Value) (w : World) (hk : k < n) (hn : n ≤ 512) (hb1 : -128 ≤ bs) (hb2 : bs ≤ 127) (hA : IntKind.i64.wrap (since + bs.tmod 7) = A k) (hA2 : wrap64 (since + bs.tmod 7) = A k)
    (hs : w.cell? (x.add k) = some (.int .i8 bs)) (ha : w.cell? ⟨Ab, k, none⟩ = some (.pointer (some ⟨ab k, 0, none⟩))) (hS : w.heap[Sb]? = some (.cells sc 4)) (hsc : sc[k]? = some (.bool false)) (hxs : x.block ≠ Sb) (hAb : Ab ≠ Sb) :
    Calls Yba.prog 12 #[.agg #[.int .i64 (A k), .int .u64 ((k : Int) + 1), .iface 102 (.pointer (some ⟨ab k, 0, none⟩))], .int .i64 since, .slice (some x) n c, .slice (some ⟨Ab, 0, none⟩) n n, .slice (some ⟨Sb, 0, none⟩) n n] w fun e w' => .returned (.bool true) = e ∧
      w'.heap[Sb]? = some (.cells (sc.setIfInBounds k (.bool true)) 4) ∧ Fr (fun j => j = Sb) w w' := by
  have d0 : w.cell? ⟨Sb, k, none⟩ = some (.bool false) := (cell_of_row _ _ _ _ _ _ hS).trans hsc
  have f0 : w.frozen? ⟨Sb, k, none⟩ = false := frozen_of_row _ _ _ _ _ hS
  have lS : Sb < w.heap.size := lt_of_block hS
  have k1 : (k : Int) < (n : Int) := by omega
  have k0 : (0 : Int) ≤ (k : Int) := by omega
  have k2 : ¬ (k : Int) + 1 < 1 := by omega
  have k3 : ¬ (n : Int) < (k : Int) + 1 := by omega
  have hq := ieq_same
  have HS := hid hS
  clear hS hsc
  go_enter Yba.func12, Yba.ntmps12
  go_wp2_with fail
  have hxl : x.block < w.heap.size := by
    have := World.block_lt_of_cell? w _ hs
    rw [add_blk] at this
    exact this
  have hal : Ab < w.heap.size := World.block_lt_of_cell? w _ ha
  have F1 : Hid (Fr (fun j => j = Sb) w ((w.setCell ⟨Sb, k, none⟩ (.bool true)).alloc (.cells #[.int .i64 (A k), .int .u64 ((k : Int) + 1), .iface 102 (.pointer (some ⟨ab k, 0, none⟩))] 112))) := hid (((Fr.refl (fun j => j = Sb) w).setCell (ad := ⟨Sb, k, none⟩) (fun _ => rfl) _).alloc _)
  have B1 : Hid (((w.setCell ⟨Sb, k, none⟩ (.bool true)).alloc (.cells #[.int .i64 (A k), .int .u64 ((k : Int) + 1), .iface 102 (.pointer (some ⟨ab k, 0, none⟩))] 112)).heap[w.heap.size]? = some (.cells #[.int .i64 (A k), .int .u64 ((k : Int) + 1), .iface 102 (.pointer (some ⟨ab k, 0, none⟩))] 112)) := hid (by
    have := heap_new (w.setCell ⟨Sb, k, none⟩ (.bool true)) (.cells #[.int .i64 (A k), .int .u64 ((k : Int) + 1), .iface 102 (.pointer (some ⟨ab k, 0, none⟩))] 112)
    have e : (w.setCell ⟨Sb, k, none⟩ (.bool true)).heap.size = w.heap.size := by simp [World.setCell]
    rw [e] at this
    exact this)
  have B2 : Hid (((w.setCell ⟨Sb, k, none⟩ (.bool true)).alloc (.cells #[.int .i64 (A k), .int .u64 ((k : Int) + 1), .iface 102 (.pointer (some ⟨ab k, 0, none⟩))] 112)).heap[Sb]? = some (.cells (sc.setIfInBounds k (.bool true)) 4)) := hid (row_alloc (heap_setCell_same _ Sb k _ _ _ HS.out))
  have hs1 : ((w.setCell ⟨Sb, k, none⟩ (.bool true)).alloc (.cells #[.int .i64 (A k), .int .u64 ((k : Int) + 1), .iface 102 (.pointer (some ⟨ab k, 0, none⟩))] 112)).cell? (x.add k) = some (.int .i8 bs) := cell_frS hs F1.out (by rw [add_blk]; exact hxs)
  have ha1 : ((w.setCell ⟨Sb, k, none⟩ (.bool true)).alloc (.cells #[.int .i64 (A k), .int .u64 ((k : Int) + 1), .iface 102 (.pointer (some ⟨ab k, 0, none⟩))] 112)).cell? ⟨Ab, k, none⟩ = some (.pointer (some ⟨ab k, 0, none⟩)) := cell_frS ha F1.out hAb
  clear hs ha d0 f0
  generalize (w.setCell ⟨Sb, k, none⟩ (.bool true)).alloc (.cells #[.int .i64 (A k), .int .u64 ((k : Int) + 1), .iface 102 (.pointer (some ⟨ab k, 0, none⟩))] 112) = W1 at *
  have b0 : W1.cell? ⟨w.heap.size, 0, none⟩ = some (.int .i64 (A k)) := cell_of_row _ _ _ _ _ _ B1.out
  have b2 : W1.cell? ⟨w.heap.size, 2, none⟩ = some (.iface 102 (.pointer (some ⟨ab k, 0, none⟩))) := cell_of_row _ _ _ _ _ _ B1.out
  have G0 := hid (And.intro b0 hs1)
  go_region_held3 (fun W => W.cell? ⟨w.heap.size, 0, none⟩ = some (.int .i64 (A k)) ∧ W.cell? (x.add k) = some (.int .i8 bs)) (first | exact G0.out) ((go_at_call 11; refine (span_any bs _ hb1 hb2).mono ?_; rintro e w2 ⟨rfl, rfl⟩))
  go_wp2_with fail
  go_quiet (fail)
  go_wp2_with fail
  go_ret
  exact ⟨rfl, B2.out, F1.out.drew.drewN nq⟩
end Go.Proofs.Ybulkanyc
