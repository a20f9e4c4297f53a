/-
  LawS1978BSchedule: fifo.push where the ring is full, or not there yet.
-/
import Derived.Test.YbulkanycSched8
namespace Go.Proofs.Ybulkanyc
open Go.RowKit
set_option linter.unusedVariables false

/-- The cells of the row of lanes that fifo.push reads, and the event's own. -/
theorem three_sizes {cs : List Value} {cur : Array Value} {n : Nat} (h : cs = cur.toList.take (n * 3)) (hs : n * 3 ≤ cur.size) : cs.length = n * 3 := by
  rw [h, List.length_take]; simp; omega

set_option maxHeartbeats 1000000 in
theorem fpush_full (A : Nat → Int) (ab : Nat → Nat) (lb o g sz N k : Nat) (lcur cur : Array Value) (cs : List Value) (w : World) (hlb : w.heap[lb]? = some (.cells lcur 100)) (c0 : lcur[o]? = some (.slice (some ⟨g, 0, none⟩) sz sz)) (c1 : lcur[o + 1]? = some (.int .i64 0)) (c2 : lcur[o + 2]? = some (.int .i64 (sz : Int)))
    (hg : w.heap[g]? = some (.cells cur 112)) (hcs : cs = cur.toList) (hl : cs.length = sz * 3) (h1 : ∀ v ∈ cs, v.oneCell' = true) (hN : N = 2 * sz) (hsz : 64 ≤ sz) (hsz2 : sz ≤ 256) (hand : bits .and .i64 (sz : Int) ((N : Int) - 1) = (sz : Int)) :
    Calls Yba.prog 21 #[.pointer (some ⟨lb, o, none⟩), .agg #[.int .i64 (A k), .int .u64 ((k : Int) + 1), .iface 102 (.pointer (some ⟨ab k, 0, none⟩))]] w fun e w' => .returned (.tuple #[]) = e ∧
      ∃ (g' : Nat) (Z : Array Value), w.heap.size ≤ g' ∧ Z.size = N * 3 ∧ Z.toList.take (sz * 3) = cs ∧ w'.heap[lb]? = some (.cells (((lcur.setIfInBounds o (.slice (some ⟨g', 0, none⟩) N N)).setIfInBounds (o + 1) (.int .i64 0)).setIfInBounds (o + 2) (.int .i64 ((sz : Int) + 1))) 100) ∧
      w'.heap[g']? = some (.cells (((Z.setIfInBounds (sz * 3) (.int .i64 (A k))).setIfInBounds (sz * 3 + 1) (.int .u64 ((k : Int) + 1))).setIfInBounds (sz * 3 + 2) (.iface 102 (.pointer (some ⟨ab k, 0, none⟩)))) 112) ∧ Fr (fun j => j = lb) w w' := by
  obtain ⟨Z0, hZ0, hm⟩ := make_ring N (by omega)
  have hne : g ≠ lb := by
    intro e
    subst e
    rw [hlb] at hg
    simp at hg
  have a0 : w.cell? ⟨lb, o, none⟩ = some (.slice (some ⟨g, 0, none⟩) sz sz) := (cell_of_row _ _ _ _ _ _ hlb).trans c0
  have a1 : w.cell? ⟨lb, o + 1, none⟩ = some (.int .i64 0) := (cell_of_row _ _ _ _ _ _ hlb).trans c1
  have a2 : w.cell? ⟨lb, o + 2, none⟩ = some (.int .i64 (sz : Int)) := (cell_of_row _ _ _ _ _ _ hlb).trans c2
  have l1 : lb < w.heap.size := lt_of_block hlb
  have l2 : g < w.heap.size := lt_of_block hg
  have i2 : ((sz : Int) == (sz : Int)) = true := by simp
  have i3 : (2 : Int) * (sz : Int) = (N : Int) := by omega
  have i4 : (64 : Int) ≤ (N : Int) := by omega
  have HLB := hid hlb
  have HG := hid hg
  have HN := hid hN
  clear hlb hg hN
  go_enter Yba.func21, Yba.ntmps21
  go_wp2_with fail
  go_quiet (fail)
  go_wp2_with fail
  have B1 : Hid ((((w.alloc (.cells #[.int .i64 (A k), .int .u64 ((k : Int) + 1), .iface 102 (.pointer (some ⟨ab k, 0, none⟩))] 112)).drewN nq).alloc (.cells Z0 112)).heap[lb]? = some (.cells lcur 100)) := hid (row_alloc (row_alloc (o' := .cells #[.int .i64 (A k), .int .u64 ((k : Int) + 1), .iface 102 (.pointer (some ⟨ab k, 0, none⟩))] 112) HLB.out))
  have BG : Hid ((((w.alloc (.cells #[.int .i64 (A k), .int .u64 ((k : Int) + 1), .iface 102 (.pointer (some ⟨ab k, 0, none⟩))] 112)).drewN nq).alloc (.cells Z0 112)).heap[g]? = some (.cells cur 112)) := hid (row_alloc (row_alloc (o' := .cells #[.int .i64 (A k), .int .u64 ((k : Int) + 1), .iface 102 (.pointer (some ⟨ab k, 0, none⟩))] 112) HG.out))
  have B2 : Hid ((((w.alloc (.cells #[.int .i64 (A k), .int .u64 ((k : Int) + 1), .iface 102 (.pointer (some ⟨ab k, 0, none⟩))] 112)).drewN nq).alloc (.cells Z0 112)).heap[w.heap.size]? = some (.cells #[.int .i64 (A k), .int .u64 ((k : Int) + 1), .iface 102 (.pointer (some ⟨ab k, 0, none⟩))] 112)) := hid (row_alloc (heap_new w _))
  have B3 : Hid ((((w.alloc (.cells #[.int .i64 (A k), .int .u64 ((k : Int) + 1), .iface 102 (.pointer (some ⟨ab k, 0, none⟩))] 112)).drewN nq).alloc (.cells Z0 112)).heap[w.heap.size + 1]? = some (.cells Z0 112)) := hid (by
    have := heap_new ((w.alloc (.cells #[.int .i64 (A k), .int .u64 ((k : Int) + 1), .iface 102 (.pointer (some ⟨ab k, 0, none⟩))] 112)).drewN nq) (.cells Z0 112)
    have e : ((w.alloc (.cells #[.int .i64 (A k), .int .u64 ((k : Int) + 1), .iface 102 (.pointer (some ⟨ab k, 0, none⟩))] 112)).drewN nq).heap.size = w.heap.size + 1 := size_new w _
    rw [e] at this
    exact this)
  have B4 : Hid (Fr (fun j => j = lb) w (((w.alloc (.cells #[.int .i64 (A k), .int .u64 ((k : Int) + 1), .iface 102 (.pointer (some ⟨ab k, 0, none⟩))] 112)).drewN nq).alloc (.cells Z0 112))) := hid ((((Fr.refl _ w).alloc _).drewN nq).alloc _)
  generalize ((w.alloc (.cells #[.int .i64 (A k), .int .u64 ((k : Int) + 1), .iface 102 (.pointer (some ⟨ab k, 0, none⟩))] 112)).drewN nq).alloc (.cells Z0 112) = W1 at *
  have C0 := hid c0
  have C1 := hid c1
  have C2 := hid c2
  clear c0 c1 c2 a0 a1 a2 hm i2
  have m0 : W1.cell? ⟨lb, o, none⟩ = some (.slice (some ⟨g, 0, none⟩) sz sz) := (cell_of_row _ _ _ _ _ _ B1.out).trans C0.out
  have m1 : W1.cell? ⟨lb, o + 1, none⟩ = some (.int .i64 0) := (cell_of_row _ _ _ _ _ _ B1.out).trans C1.out
  have G0 := hid (And.intro m0 m1)
  have G1 : Hid (∀ W, Fr (fun j => j = w.heap.size + 1) W1.drew W → W.cell? ⟨lb, o, none⟩ = some (.slice (some ⟨g, 0, none⟩) sz sz) ∧ W.cell? ⟨lb, o + 1, none⟩ = some (.int .i64 0)) := hid (fun W f => ⟨cell_frS (w := W1.drew) m0 f (by show ¬ lb = w.heap.size + 1; omega), cell_frS (w := W1.drew) m1 f (by show ¬ lb = w.heap.size + 1; omega)⟩)
  have SRC : Hid (∀ j v, cs[j]? = some v → W1.drew.cell? ((⟨g, 0, none⟩ : Addr).add j) = some v) := hid (fun j v hj => by
    have hadd : (⟨g, 0, none⟩ : Addr).add j = ⟨g, j, none⟩ := by unfold Addr.add; split <;> simp_all
    rw [hadd]
    have e : W1.drew.cell? ⟨g, j, none⟩ = cur[j]? := cell_of_row _ _ _ _ _ _ BG.out
    rw [e, ← hj, hcs]
    simp)
  have BZ : Hid (W1.drew.heap[w.heap.size + 1]? = some (.cells Z0 112)) := B3
  have q1 := hid (show sz = Nat.min sz N by simp only [Nat.min_def]; rw [if_pos (by omega)])
  have q2 := hid hl
  have q3 := hid (show cs.length ≤ Z0.size by omega)
  have q4 := hid h1
  have HCS := hid hcs
  clear hcs hl h1
  have i5 : (0 : Int) ≤ (sz : Int) := by omega
  have i6 : (sz : Int) ≤ (N : Int) := by omega
  go_region_held3 (fun W => W.cell? ⟨lb, o, none⟩ = some (.slice (some ⟨g, 0, none⟩) sz sz) ∧ W.cell? ⟨lb, o + 1, none⟩ = some (.int .i64 0)) (first | exact G0.out | exact G1.out _ ‹_›)
    ((refine step_copy3 rfl (.tmp 24) (.tmp 33) rfl (w.heap.size + 1) N N ⟨g, 0, none⟩ sz sz sz rfl rfl Z0 cs BZ.out q1.out q2.out SRC.out q3.out q4.out ?_; intro w2 hw2 fw2))
  have HZs : (cs ++ Z0.toList.drop cs.length).toArray.size = N * 3 := by
    have := q3.out
    simp
    omega
  have HTs : (cs ++ Z0.toList.drop cs.length).toArray.toList.take (sz * 3) = cs := by
    rw [← q2.out]
    exact List.take_left
  generalize (cs ++ Z0.toList.drop cs.length).toArray = Z at hw2 HZs HTs
  have HZ := hid HZs
  have HT := hid HTs
  have p1 := cell_frS (w := W1.drew) m0 fw2 (by show ¬ lb = w.heap.size + 1; omega)
  have p2 := cell_frS (w := W1.drew) m1 fw2 (by show ¬ lb = w.heap.size + 1; omega)
  have B1 : Hid (w2.heap[lb]? = some (.cells lcur 100)) := hid ((fw2.block lb (lt_of_block (w := W1.drew) B1.out) (by show ¬ lb = w.heap.size + 1; omega)).trans B1.out)
  have B2 : Hid (w2.heap[w.heap.size]? = some (.cells #[.int .i64 (A k), .int .u64 ((k : Int) + 1), .iface 102 (.pointer (some ⟨ab k, 0, none⟩))] 112)) := hid ((fw2.block w.heap.size (lt_of_block (w := W1.drew) B2.out) (by show ¬ w.heap.size = w.heap.size + 1; omega)).trans B2.out)
  have B3 : Hid (w2.heap[w.heap.size + 1]? = some (.cells Z 112)) := hid hw2
  have B4 : Hid (Fr (fun j => j = lb) w w2) := hid (B4.out.drew.trans' fw2 (fun j hj e => by omega))
  have HG0 := hid (And.intro p1 p2)
  clear hw2 fw2 G0 G1 SRC BZ m0 m1 q1 q2 q3 q4 BG HZs HTs hZ0
  rename_i hHeld
  clear hHeld
  go_wp2_with fail
  go_region_held3 (fun W => W.cell? ⟨lb, o, none⟩ = some (.slice (some ⟨g, 0, none⟩) sz sz) ∧ W.cell? ⟨lb, o + 1, none⟩ = some (.int .i64 0)) (first | exact HG0.out)
    ((refine step_copy0 rfl (.tmp 37) (.tmp 46) rfl _ _ _ _ _ rfl rfl ?_))
  have B1 : Hid (w2.drew.heap[lb]? = some (.cells lcur 100)) := B1
  have B2 : Hid (w2.drew.heap[w.heap.size]? = some (.cells #[.int .i64 (A k), .int .u64 ((k : Int) + 1), .iface 102 (.pointer (some ⟨ab k, 0, none⟩))] 112)) := B2
  have B3 : Hid (w2.drew.heap[w.heap.size + 1]? = some (.cells Z 112)) := B3
  have B4 : Hid (Fr (fun j => j = lb) w w2.drew) := hid B4.out.drew
  rename_i hHeld2
  clear hHeld2 HG0 p1 p2
  generalize w2.drew = w3 at *
  have m0 : w3.cell? ⟨lb, o, none⟩ = some (.slice (some ⟨g, 0, none⟩) sz sz) := (cell_of_row _ _ _ _ _ _ B1.out).trans C0.out
  have m1 : w3.cell? ⟨lb, o + 1, none⟩ = some (.int .i64 0) := (cell_of_row _ _ _ _ _ _ B1.out).trans C1.out
  have m2 : w3.cell? ⟨lb, o + 2, none⟩ = some (.int .i64 (sz : Int)) := (cell_of_row _ _ _ _ _ _ B1.out).trans C2.out
  have f0 : w3.frozen? ⟨lb, o, none⟩ = false := frozen_of_row _ _ _ _ _ B1.out
  have f1 : w3.frozen? ⟨lb, o + 1, none⟩ = false := frozen_of_row _ _ _ _ _ B1.out
  have f2 : w3.frozen? ⟨lb, o + 2, none⟩ = false := frozen_of_row _ _ _ _ _ B1.out
  have t0 : w3.cell? ⟨w.heap.size, 0, none⟩ = some (.int .i64 (A k)) := cell_of_row _ _ _ _ _ _ B2.out
  have t1 : w3.cell? ⟨w.heap.size, 1, none⟩ = some (.int .u64 ((k : Int) + 1)) := cell_of_row _ _ _ _ _ _ B2.out
  have t2 : w3.cell? ⟨w.heap.size, 2, none⟩ = some (.iface 102 (.pointer (some ⟨ab k, 0, none⟩))) := cell_of_row _ _ _ _ _ _ B2.out
  have y1 : lb < w3.heap.size := lt_of_block B1.out
  have y2 : w.heap.size < w3.heap.size := lt_of_block B2.out
  have y3 : w.heap.size + 1 < w3.heap.size := lt_of_block B3.out
  have u1 : ¬ w.heap.size + 1 = lb := by omega
  have u2 : ¬ lb = w.heap.size + 1 := by omega
  have u3 : ¬ w.heap.size = lb := by omega
  have u4 : ¬ w.heap.size = w.heap.size + 1 := by omega
  have i5 : (sz : Int) < (N : Int) := by omega
  go_wp2_with fail
  have D1 : Hid (((w3.setCell ⟨lb, o, none⟩ (.slice (some ⟨w.heap.size + 1, 0, none⟩) N N)).setCell ⟨lb, o + 1, none⟩ (.int .i64 0)).heap[lb]? = some (.cells ((lcur.setIfInBounds o (.slice (some ⟨w.heap.size + 1, 0, none⟩) N N)).setIfInBounds (o + 1) (.int .i64 0)) 100)) := hid (heap_setCell_same _ lb (o + 1) _ _ _ (heap_setCell_same _ lb o _ _ _ B1.out))
  have D2 : Hid (((w3.setCell ⟨lb, o, none⟩ (.slice (some ⟨w.heap.size + 1, 0, none⟩) N N)).setCell ⟨lb, o + 1, none⟩ (.int .i64 0)).heap[w.heap.size]? = some (.cells #[.int .i64 (A k), .int .u64 ((k : Int) + 1), .iface 102 (.pointer (some ⟨ab k, 0, none⟩))] 112)) := hid (row_other (row_other B2.out u3) u3)
  have D3 : Hid (((w3.setCell ⟨lb, o, none⟩ (.slice (some ⟨w.heap.size + 1, 0, none⟩) N N)).setCell ⟨lb, o + 1, none⟩ (.int .i64 0)).heap[w.heap.size + 1]? = some (.cells Z 112)) := hid (row_other (row_other B3.out u1) u1)
  have D4 : Hid (Fr (fun j => j = lb) w ((w3.setCell ⟨lb, o, none⟩ (.slice (some ⟨w.heap.size + 1, 0, none⟩) N N)).setCell ⟨lb, o + 1, none⟩ (.int .i64 0))) := hid ((B4.out.setCell (ad := ⟨lb, o, none⟩) (fun _ => rfl) _).setCell (ad := ⟨lb, o + 1, none⟩) (fun _ => rfl) _)
  have lo : o < lcur.size := (Array.getElem?_eq_some_iff.1 C0.out).1
  have lo1 : o + 1 < lcur.size := (Array.getElem?_eq_some_iff.1 C1.out).1
  clear m0 m1 m2 f0 f1 f2 t0 t1 t2 y1 y2 y3
  generalize (w3.setCell ⟨lb, o, none⟩ (.slice (some ⟨w.heap.size + 1, 0, none⟩) N N)).setCell ⟨lb, o + 1, none⟩ (.int .i64 0) = w4 at *
  have m0 : w4.cell? ⟨lb, o, none⟩ = some (.slice (some ⟨w.heap.size + 1, 0, none⟩) N N) := by
    rw [cell_of_row _ _ _ _ _ _ D1.out, Array.getElem?_setIfInBounds, if_neg (by omega), Array.getElem?_setIfInBounds, if_pos rfl, if_pos lo]
  have m1 : w4.cell? ⟨lb, o + 1, none⟩ = some (.int .i64 0) := by
    rw [cell_of_row _ _ _ _ _ _ D1.out, Array.getElem?_setIfInBounds, if_pos rfl, if_pos (by simpa using lo1)]
  have m2 : w4.cell? ⟨lb, o + 2, none⟩ = some (.int .i64 (sz : Int)) := by
    rw [cell_of_row _ _ _ _ _ _ D1.out, Array.getElem?_setIfInBounds, if_neg (by omega), Array.getElem?_setIfInBounds, if_neg (by omega), C2.out]
  have f2 : w4.frozen? ⟨lb, o + 2, none⟩ = false := frozen_of_row _ _ _ _ _ D1.out
  have t0 : w4.cell? ⟨w.heap.size, 0, none⟩ = some (.int .i64 (A k)) := cell_of_row _ _ _ _ _ _ D2.out
  have t1 : w4.cell? ⟨w.heap.size, 1, none⟩ = some (.int .u64 ((k : Int) + 1)) := cell_of_row _ _ _ _ _ _ D2.out
  have t2 : w4.cell? ⟨w.heap.size, 2, none⟩ = some (.iface 102 (.pointer (some ⟨ab k, 0, none⟩))) := cell_of_row _ _ _ _ _ _ D2.out
  obtain ⟨v0, d0⟩ : ∃ v, w4.cell? ⟨w.heap.size + 1, sz * 3, none⟩ = some v := ⟨Z[sz * 3]'(by have := HZ.out; omega), by rw [cell_of_row _ _ _ _ _ _ D3.out]; simp⟩
  obtain ⟨v1, d1⟩ : ∃ v, w4.cell? ⟨w.heap.size + 1, sz * 3 + 1, none⟩ = some v := ⟨Z[sz * 3 + 1]'(by have := HZ.out; omega), by rw [cell_of_row _ _ _ _ _ _ D3.out]; simp⟩
  obtain ⟨v2, d2⟩ : ∃ v, w4.cell? ⟨w.heap.size + 1, sz * 3 + 2, none⟩ = some v := ⟨Z[sz * 3 + 2]'(by have := HZ.out; omega), by rw [cell_of_row _ _ _ _ _ _ D3.out]; simp⟩
  have e0 : w4.frozen? ⟨w.heap.size + 1, sz * 3, none⟩ = false := frozen_of_row _ _ _ _ _ D3.out
  have e1 : w4.frozen? ⟨w.heap.size + 1, sz * 3 + 1, none⟩ = false := frozen_of_row _ _ _ _ _ D3.out
  have e2 : w4.frozen? ⟨w.heap.size + 1, sz * 3 + 2, none⟩ = false := frozen_of_row _ _ _ _ _ D3.out
  have y1 : lb < w4.heap.size := lt_of_block D1.out
  have y2 : w.heap.size < w4.heap.size := lt_of_block D2.out
  have y3 : w.heap.size + 1 < w4.heap.size := lt_of_block D3.out
  have hNb : (N : Int) ≤ 1024 := by omega
  have hLb : (sz : Int) ≤ 512 := by omega
  go_region
  go_wp2_with fail
  go_end0
  refine ⟨rfl, w.heap.size + 1, Z, by omega, HZ.out, HT.out, ?_, ?_, ?_⟩
  · exact heap_setCell_same _ lb (o + 2) _ _ _ (row_other (row_other (row_other D1.out u2) u2) u2)
  · refine row_other ?_ u1
    exact heap_setCell_same _ (w.heap.size + 1) (sz * 3 + 2) _ _ _ (heap_setCell_same _ (w.heap.size + 1) (sz * 3 + 1) _ _ _ (heap_setCell_same _ (w.heap.size + 1) (sz * 3) _ _ _ D3.out))
  · exact (((D4.out.drew.setCell (ad := ⟨w.heap.size + 1, sz * 3, none⟩) (fun h => absurd h (by show ¬ w.heap.size + 1 < w.heap.size; omega)) _).setCell (ad := ⟨w.heap.size + 1, sz * 3 + 1, none⟩) (fun h => absurd h (by show ¬ w.heap.size + 1 < w.heap.size; omega)) _).setCell (ad := ⟨w.heap.size + 1, sz * 3 + 2, none⟩) (fun h => absurd h (by show ¬ w.heap.size + 1 < w.heap.size; omega)) _).setCell (ad := ⟨lb, o + 2, none⟩) (fun _ => rfl) _
end Go.Proofs.Ybulkanyc
