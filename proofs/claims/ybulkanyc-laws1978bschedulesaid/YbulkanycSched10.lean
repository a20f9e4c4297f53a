/-
  LawS1978BSchedule: fifo.push where the ring is not there yet.
-/
import Derived.Test.YbulkanycSched9
namespace Go.Proofs.Ybulkanyc
open Go.RowKit
set_option linter.unusedVariables false

set_option maxHeartbeats 1000000 in
theorem fpush_nil (A : Nat → Int) (ab : Nat → Nat) (lb o k : Nat) (lcur : Array Value) (w : World) (hlb : w.heap[lb]? = some (.cells lcur 100)) (c0 : lcur[o]? = some (.slice none 0 0)) (c1 : lcur[o + 1]? = some (.int .i64 0)) (c2 : lcur[o + 2]? = some (.int .i64 0)) (hand : bits .and .i64 0 63 = 0) :
    Calls Yba.prog 21 #[.pointer (some ⟨lb, o, none⟩), .agg #[.int .i64 (A k), .int .u64 ((k : Int) + 1), .iface 102 (.pointer (some ⟨ab k, 0, none⟩))]] w fun e w' => .returned (.tuple #[]) = e ∧
      ∃ (g' : Nat) (Z : Array Value), w.heap.size ≤ g' ∧ Z.size = 64 * 3 ∧ w'.heap[lb]? = some (.cells (((lcur.setIfInBounds o (.slice (some ⟨g', 0, none⟩) 64 64)).setIfInBounds (o + 1) (.int .i64 0)).setIfInBounds (o + 2) (.int .i64 1)) 100) ∧
      w'.heap[g']? = some (.cells (((Z.setIfInBounds 0 (.int .i64 (A k))).setIfInBounds 1 (.int .u64 ((k : Int) + 1))).setIfInBounds 2 (.iface 102 (.pointer (some ⟨ab k, 0, none⟩)))) 112) ∧ Fr (fun j => j = lb) w w' := by
  obtain ⟨Z, hZ, hm⟩ := make_ring 64 (by omega)
  have a0 : w.cell? ⟨lb, o, none⟩ = some (.slice none 0 0) := (cell_of_row _ _ _ _ _ _ hlb).trans c0
  have a1 : w.cell? ⟨lb, o + 1, none⟩ = some (.int .i64 0) := (cell_of_row _ _ _ _ _ _ hlb).trans c1
  have a2 : w.cell? ⟨lb, o + 2, none⟩ = some (.int .i64 0) := (cell_of_row _ _ _ _ _ _ hlb).trans c2
  have l1 : lb < w.heap.size := lt_of_block hlb
  have HLB := hid hlb
  have HZ := hid hZ
  have HAND := hid hand
  have hm2 : ∀ w : World, (Instr.makeSlice 83 (.int .i64 64) (.int .i64 64)).run Yba.prog w = .ok (.slice (some ⟨w.heap.size, 0, none⟩) 64 64) (w.alloc (.cells Z 112)) := hm
  clear hlb hZ hand hm
  go_enter Yba.func21, Yba.ntmps21
  go_wp2_with fail
  go_quiet (fail)
  go_wp2_with fail
  have B1 : Hid ((((w.alloc (.cells #[.int .i64 (A k), .int .u64 ((k : Int) + 1), .iface 102 (.pointer (some ⟨ab k, 0, none⟩))] 112)).drewN nq).alloc (.cells Z 112)).heap[lb]? = some (.cells lcur 100)) := hid (row_alloc (row_alloc (o' := .cells #[.int .i64 (A k), .int .u64 ((k : Int) + 1), .iface 102 (.pointer (some ⟨ab k, 0, none⟩))] 112) HLB.out))
  have B2 : Hid ((((w.alloc (.cells #[.int .i64 (A k), .int .u64 ((k : Int) + 1), .iface 102 (.pointer (some ⟨ab k, 0, none⟩))] 112)).drewN nq).alloc (.cells Z 112)).heap[w.heap.size]? = some (.cells #[.int .i64 (A k), .int .u64 ((k : Int) + 1), .iface 102 (.pointer (some ⟨ab k, 0, none⟩))] 112)) := hid (row_alloc (heap_new w _))
  have B3 : Hid ((((w.alloc (.cells #[.int .i64 (A k), .int .u64 ((k : Int) + 1), .iface 102 (.pointer (some ⟨ab k, 0, none⟩))] 112)).drewN nq).alloc (.cells Z 112)).heap[w.heap.size + 1]? = some (.cells Z 112)) := hid (by
    have := heap_new ((w.alloc (.cells #[.int .i64 (A k), .int .u64 ((k : Int) + 1), .iface 102 (.pointer (some ⟨ab k, 0, none⟩))] 112)).drewN nq) (.cells Z 112)
    have e : ((w.alloc (.cells #[.int .i64 (A k), .int .u64 ((k : Int) + 1), .iface 102 (.pointer (some ⟨ab k, 0, none⟩))] 112)).drewN nq).heap.size = w.heap.size + 1 := size_new w _
    rw [e] at this
    exact this)
  have B4 : Hid (Fr (fun j => j = lb) w (((w.alloc (.cells #[.int .i64 (A k), .int .u64 ((k : Int) + 1), .iface 102 (.pointer (some ⟨ab k, 0, none⟩))] 112)).drewN nq).alloc (.cells Z 112))) := hid ((((Fr.refl _ w).alloc _).drewN nq).alloc _)
  generalize ((w.alloc (.cells #[.int .i64 (A k), .int .u64 ((k : Int) + 1), .iface 102 (.pointer (some ⟨ab k, 0, none⟩))] 112)).drewN nq).alloc (.cells Z 112) = W1 at *
  have C0 := hid c0
  have C1 := hid c1
  have C2 := hid c2
  clear c0 c1 c2 a0 a1 a2 hm2
  have m0 : W1.cell? ⟨lb, o, none⟩ = some (.slice none 0 0) := (cell_of_row _ _ _ _ _ _ B1.out).trans C0.out
  have m1 : W1.cell? ⟨lb, o + 1, none⟩ = some (.int .i64 0) := (cell_of_row _ _ _ _ _ _ B1.out).trans C1.out
  have G0 := hid (And.intro m0 m1)
  go_region_held3 (fun W => W.cell? ⟨lb, o, none⟩ = some (.slice none 0 0) ∧ W.cell? ⟨lb, o + 1, none⟩ = some (.int .i64 0)) (first | exact G0.out)
    ((refine step_copy0 rfl (.tmp 24) (.tmp 33) rfl _ _ _ _ _ rfl rfl ?_))
  go_wp2_with fail
  go_region_held3 (fun W => W.cell? ⟨lb, o, none⟩ = some (.slice none 0 0) ∧ W.cell? ⟨lb, o + 1, none⟩ = some (.int .i64 0)) (first | exact G0.out)
    ((refine step_copy0 rfl (.tmp 37) (.tmp 46) rfl _ _ _ _ _ rfl rfl ?_))
  have B1 : Hid (W1.drew.drew.heap[lb]? = some (.cells lcur 100)) := B1
  have B2 : Hid (W1.drew.drew.heap[w.heap.size]? = some (.cells #[.int .i64 (A k), .int .u64 ((k : Int) + 1), .iface 102 (.pointer (some ⟨ab k, 0, none⟩))] 112)) := B2
  have B3 : Hid (W1.drew.drew.heap[w.heap.size + 1]? = some (.cells Z 112)) := B3
  have B4 : Hid (Fr (fun j => j = lb) w W1.drew.drew) := hid B4.out.drew.drew
  clear m0 m1 G0
  generalize W1.drew.drew = w3 at *
  have m0 : w3.cell? ⟨lb, o, none⟩ = some (.slice none 0 0) := (cell_of_row _ _ _ _ _ _ B1.out).trans C0.out
  have m1 : w3.cell? ⟨lb, o + 1, none⟩ = some (.int .i64 0) := (cell_of_row _ _ _ _ _ _ B1.out).trans C1.out
  have m2 : w3.cell? ⟨lb, o + 2, none⟩ = some (.int .i64 0) := (cell_of_row _ _ _ _ _ _ B1.out).trans C2.out
  have f0 : w3.frozen? ⟨lb, o, none⟩ = false := frozen_of_row _ _ _ _ _ B1.out
  have f1 : w3.frozen? ⟨lb, o + 1, none⟩ = false := frozen_of_row _ _ _ _ _ B1.out
  have f2 : w3.frozen? ⟨lb, o + 2, none⟩ = false := frozen_of_row _ _ _ _ _ B1.out
  have t0 : w3.cell? ⟨w.heap.size, 0, none⟩ = some (.int .i64 (A k)) := cell_of_row _ _ _ _ _ _ B2.out
  have t1 : w3.cell? ⟨w.heap.size, 1, none⟩ = some (.int .u64 ((k : Int) + 1)) := cell_of_row _ _ _ _ _ _ B2.out
  have t2 : w3.cell? ⟨w.heap.size, 2, none⟩ = some (.iface 102 (.pointer (some ⟨ab k, 0, none⟩))) := cell_of_row _ _ _ _ _ _ B2.out
  have y1 : lb < w3.heap.size := lt_of_block B1.out
  have y2 : w.heap.size < w3.heap.size := lt_of_block B2.out
  have y3 : w.heap.size + 1 < w3.heap.size := lt_of_block B3.out
  have u1 : ¬ w.heap.size + 1 = lb := by omega
  have u2 : ¬ lb = w.heap.size + 1 := by omega
  have u3 : ¬ w.heap.size = lb := by omega
  have u4 : ¬ w.heap.size = w.heap.size + 1 := by omega
  go_wp2_with fail
  have D1 : Hid (((w3.setCell ⟨lb, o, none⟩ (.slice (some ⟨w.heap.size + 1, 0, none⟩) 64 64)).setCell ⟨lb, o + 1, none⟩ (.int .i64 0)).heap[lb]? = some (.cells ((lcur.setIfInBounds o (.slice (some ⟨w.heap.size + 1, 0, none⟩) 64 64)).setIfInBounds (o + 1) (.int .i64 0)) 100)) := hid (heap_setCell_same _ lb (o + 1) _ _ _ (heap_setCell_same _ lb o _ _ _ B1.out))
  have D2 : Hid (((w3.setCell ⟨lb, o, none⟩ (.slice (some ⟨w.heap.size + 1, 0, none⟩) 64 64)).setCell ⟨lb, o + 1, none⟩ (.int .i64 0)).heap[w.heap.size]? = some (.cells #[.int .i64 (A k), .int .u64 ((k : Int) + 1), .iface 102 (.pointer (some ⟨ab k, 0, none⟩))] 112)) := hid (row_other (row_other B2.out u3) u3)
  have D3 : Hid (((w3.setCell ⟨lb, o, none⟩ (.slice (some ⟨w.heap.size + 1, 0, none⟩) 64 64)).setCell ⟨lb, o + 1, none⟩ (.int .i64 0)).heap[w.heap.size + 1]? = some (.cells Z 112)) := hid (row_other (row_other B3.out u1) u1)
  have D4 : Hid (Fr (fun j => j = lb) w ((w3.setCell ⟨lb, o, none⟩ (.slice (some ⟨w.heap.size + 1, 0, none⟩) 64 64)).setCell ⟨lb, o + 1, none⟩ (.int .i64 0))) := hid ((B4.out.setCell (ad := ⟨lb, o, none⟩) (fun _ => rfl) _).setCell (ad := ⟨lb, o + 1, none⟩) (fun _ => rfl) _)
  have lo : o < lcur.size := (Array.getElem?_eq_some_iff.1 C0.out).1
  have lo1 : o + 1 < lcur.size := (Array.getElem?_eq_some_iff.1 C1.out).1
  clear m0 m1 m2 f0 f1 f2 t0 t1 t2 y1 y2 y3
  generalize (w3.setCell ⟨lb, o, none⟩ (.slice (some ⟨w.heap.size + 1, 0, none⟩) 64 64)).setCell ⟨lb, o + 1, none⟩ (.int .i64 0) = w4 at *
  have m0 : w4.cell? ⟨lb, o, none⟩ = some (.slice (some ⟨w.heap.size + 1, 0, none⟩) 64 64) := by
    rw [cell_of_row _ _ _ _ _ _ D1.out, Array.getElem?_setIfInBounds, if_neg (by omega), Array.getElem?_setIfInBounds, if_pos rfl, if_pos lo]
  have m1 : w4.cell? ⟨lb, o + 1, none⟩ = some (.int .i64 0) := by
    rw [cell_of_row _ _ _ _ _ _ D1.out, Array.getElem?_setIfInBounds, if_pos rfl, if_pos (by simpa using lo1)]
  have m2 : w4.cell? ⟨lb, o + 2, none⟩ = some (.int .i64 0) := by
    rw [cell_of_row _ _ _ _ _ _ D1.out, Array.getElem?_setIfInBounds, if_neg (by omega), Array.getElem?_setIfInBounds, if_neg (by omega), C2.out]
  have f2 : w4.frozen? ⟨lb, o + 2, none⟩ = false := frozen_of_row _ _ _ _ _ D1.out
  have t0 : w4.cell? ⟨w.heap.size, 0, none⟩ = some (.int .i64 (A k)) := cell_of_row _ _ _ _ _ _ D2.out
  have t1 : w4.cell? ⟨w.heap.size, 1, none⟩ = some (.int .u64 ((k : Int) + 1)) := cell_of_row _ _ _ _ _ _ D2.out
  have t2 : w4.cell? ⟨w.heap.size, 2, none⟩ = some (.iface 102 (.pointer (some ⟨ab k, 0, none⟩))) := cell_of_row _ _ _ _ _ _ D2.out
  obtain ⟨v0, d0⟩ : ∃ v, w4.cell? ⟨w.heap.size + 1, 0, none⟩ = some v := ⟨Z[0]'(by have := HZ.out; omega), by rw [cell_of_row _ _ _ _ _ _ D3.out]; simp⟩
  obtain ⟨v1, d1⟩ : ∃ v, w4.cell? ⟨w.heap.size + 1, 1, none⟩ = some v := ⟨Z[1]'(by have := HZ.out; omega), by rw [cell_of_row _ _ _ _ _ _ D3.out]; simp⟩
  obtain ⟨v2, d2⟩ : ∃ v, w4.cell? ⟨w.heap.size + 1, 2, none⟩ = some v := ⟨Z[2]'(by have := HZ.out; omega), by rw [cell_of_row _ _ _ _ _ _ D3.out]; simp⟩
  have e0 : w4.frozen? ⟨w.heap.size + 1, 0, none⟩ = false := frozen_of_row _ _ _ _ _ D3.out
  have e1 : w4.frozen? ⟨w.heap.size + 1, 1, none⟩ = false := frozen_of_row _ _ _ _ _ D3.out
  have e2 : w4.frozen? ⟨w.heap.size + 1, 2, none⟩ = false := frozen_of_row _ _ _ _ _ D3.out
  have y1 : lb < w4.heap.size := lt_of_block D1.out
  have y2 : w.heap.size < w4.heap.size := lt_of_block D2.out
  have y3 : w.heap.size + 1 < w4.heap.size := lt_of_block D3.out
  have hand := HAND.out
  go_region
  go_wp2_with fail
  go_end0
  refine ⟨rfl, w.heap.size + 1, Z, by omega, HZ.out, ?_, ?_, ?_⟩
  · exact heap_setCell_same _ lb (o + 2) _ _ _ (row_other (row_other (row_other D1.out u2) u2) u2)
  · refine row_other ?_ u1
    exact heap_setCell_same _ (w.heap.size + 1) (2) _ _ _ (heap_setCell_same _ (w.heap.size + 1) (1) _ _ _ (heap_setCell_same _ (w.heap.size + 1) (0) _ _ _ D3.out))
  · exact (((D4.out.drew.setCell (ad := ⟨w.heap.size + 1, 0, none⟩) (fun h => absurd h (by show ¬ w.heap.size + 1 < w.heap.size; omega)) _).setCell (ad := ⟨w.heap.size + 1, 1, none⟩) (fun h => absurd h (by show ¬ w.heap.size + 1 < w.heap.size; omega)) _).setCell (ad := ⟨w.heap.size + 1, 2, none⟩) (fun h => absurd h (by show ¬ w.heap.size + 1 < w.heap.size; omega)) _).setCell (ad := ⟨lb, o + 2, none⟩) (fun _ => rfl) _
end Go.Proofs.Ybulkanyc
