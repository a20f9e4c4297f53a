/-
  LawS1978BSchedule: fifo.push.
-/
import Derived.Test.YbulkanycSched7
namespace Go.Proofs.Ybulkanyc
open Go.RowKit
set_option linter.unusedVariables false

set_option maxHeartbeats 1000000 in
theorem fpush_room (A : Nat → Int) (ab : Nat → Nat) (lb o g sz len k : Nat) (lcur cur : Array Value) (w : World) (hlb : w.heap[lb]? = some (.cells lcur 100)) (c0 : lcur[o]? = some (.slice (some ⟨g, 0, none⟩) sz sz)) (c1 : lcur[o + 1]? = some (.int .i64 0)) (c2 : lcur[o + 2]? = some (.int .i64 (len : Int)))
    (hg : w.heap[g]? = some (.cells cur 112)) (hcs : cur.size = sz * 3) (hlt : len < sz) (hand : bits .and .i64 (len : Int) ((sz : Int) - 1) = (len : Int)) (hsz : sz ≤ 512) :
    Calls Yba.prog 21 #[.pointer (some ⟨lb, o, none⟩), .agg #[.int .i64 (A k), .int .u64 ((k : Int) + 1), .iface 102 (.pointer (some ⟨ab k, 0, none⟩))]] w fun e w' => .returned (.tuple #[]) = e ∧
      w'.heap[lb]? = some (.cells (lcur.setIfInBounds (o + 2) (.int .i64 ((len : Int) + 1))) 100) ∧
      w'.heap[g]? = some (.cells (((cur.setIfInBounds (len * 3) (.int .i64 (A k))).setIfInBounds (len * 3 + 1) (.int .u64 ((k : Int) + 1))).setIfInBounds (len * 3 + 2) (.iface 102 (.pointer (some ⟨ab k, 0, none⟩)))) 112) ∧ Fr (fun j => j = lb ∨ j = g) w w' := by
  have hne : g ≠ lb := by
    intro e
    subst e
    rw [hlb] at hg
    simp at hg
  have a0 : w.cell? ⟨lb, o, none⟩ = some (.slice (some ⟨g, 0, none⟩) sz sz) := (cell_of_row _ _ _ _ _ _ hlb).trans c0
  have a1 : w.cell? ⟨lb, o + 1, none⟩ = some (.int .i64 0) := (cell_of_row _ _ _ _ _ _ hlb).trans c1
  have a2 : w.cell? ⟨lb, o + 2, none⟩ = some (.int .i64 (len : Int)) := (cell_of_row _ _ _ _ _ _ hlb).trans c2
  have f2 : w.frozen? ⟨lb, o + 2, none⟩ = false := frozen_of_row _ _ _ _ _ hlb
  have d0 : w.cell? ⟨g, len * 3, none⟩ = some cur[len * 3] := by rw [cell_of_row _ _ _ _ _ _ hg]; simp
  have d1 : w.cell? ⟨g, len * 3 + 1, none⟩ = some cur[len * 3 + 1] := by rw [cell_of_row _ _ _ _ _ _ hg]; simp
  have d2 : w.cell? ⟨g, len * 3 + 2, none⟩ = some cur[len * 3 + 2] := by rw [cell_of_row _ _ _ _ _ _ hg]; simp
  generalize cur[len * 3] = v0 at d0
  generalize cur[len * 3 + 1] = v1 at d1
  generalize cur[len * 3 + 2] = v2 at d2
  have e0 : w.frozen? ⟨g, len * 3, none⟩ = false := frozen_of_row _ _ _ _ _ hg
  have e1 : w.frozen? ⟨g, len * 3 + 1, none⟩ = false := frozen_of_row _ _ _ _ _ hg
  have e2 : w.frozen? ⟨g, len * 3 + 2, none⟩ = false := frozen_of_row _ _ _ _ _ hg
  have l1 : lb < w.heap.size := lt_of_block hlb
  have l2 : g < w.heap.size := lt_of_block hg
  have n1 : ¬ lb = g := fun e => hne e.symm
  have i1 : (len : Int) < (sz : Int) := by omega
  have i2 : ((len : Int) == (sz : Int)) = false := by simp; omega
  have HLB := hid hlb
  have HG := hid hg
  clear hlb hg c0 c1 c2 hcs
  go_enter Yba.func21, Yba.ntmps21
  go_wp2_with fail
  go_quiet (fail)
  go_wp2_with fail
  go_region
  go_wp2_with fail
  go_end0
  have k1 : ((w.alloc (.cells #[.int .i64 (A k), .int .u64 ((k : Int) + 1), .iface 102 (.pointer (some ⟨ab k, 0, none⟩))] 112)).drewN (nq + 1)).heap[g]? = some (.cells cur 112) := row_alloc HG.out
  have k2 : ((w.alloc (.cells #[.int .i64 (A k), .int .u64 ((k : Int) + 1), .iface 102 (.pointer (some ⟨ab k, 0, none⟩))] 112)).drewN (nq + 1)).heap[lb]? = some (.cells lcur 100) := row_alloc HLB.out
  have k3 : Fr (fun j => j = lb ∨ j = g) w ((w.alloc (.cells #[.int .i64 (A k), .int .u64 ((k : Int) + 1), .iface 102 (.pointer (some ⟨ab k, 0, none⟩))] 112)).drewN (nq + 1)) := ((Fr.refl _ w).alloc _).drewN _
  generalize (w.alloc (.cells #[.int .i64 (A k), .int .u64 ((k : Int) + 1), .iface 102 (.pointer (some ⟨ab k, 0, none⟩))] 112)).drewN (nq + 1) = W at *
  refine ⟨rfl, ?_, ?_, ?_⟩
  · exact heap_setCell_same _ lb (o + 2) _ _ _ (row_other (row_other (row_other k2 n1) n1) n1)
  · refine row_other ?_ hne
    exact heap_setCell_same _ g (len * 3 + 2) _ _ _ (heap_setCell_same _ g (len * 3 + 1) _ _ _ (heap_setCell_same _ g (len * 3) _ _ _ k1))
  · exact (((k3.setCell (ad := ⟨g, len * 3, none⟩) (fun _ => .inr rfl) _).setCell (ad := ⟨g, len * 3 + 1, none⟩) (fun _ => .inr rfl) _).setCell (ad := ⟨g, len * 3 + 2, none⟩) (fun _ => .inr rfl) _).setCell (ad := ⟨lb, o + 2, none⟩) (fun _ => .inl rfl) _

theorem run_copy3 (w : World) (ty : TypeId) (g dLen dCap : Nat) (a : Addr) (sLen sCap n : Nat) (cur : Array Value) (cs : List Value) (hg : w.heap[g]? = some (.cells cur 112)) (hn : n = Nat.min sLen dLen) (hl : cs.length = n * 3)
    (hsrc : ∀ j v, cs[j]? = some v → w.cell? (a.add j) = some v) (hfit : cs.length ≤ cur.size) (h1 : ∀ v ∈ cs, v.oneCell' = true) :
    (Builtin.copy_ #[83, 83] ty #[.slice (some ⟨g, 0, none⟩) dLen dCap, .slice (some a) sLen sCap]).run Yba.prog w = .ok (goInt n) (w.setRow g (cs ++ cur.toList.drop cs.length).toArray) := by
  obtain ⟨i0, hi, hz0, hz1, hz2⟩ := info_parts info112
  have hl' := run_loadCells_list (P := Yba.prog) w a cs hsrc
  have hst := run_storeCells_at Yba.prog g 0 112 cs 0 cur w hg (by simpa using hfit) h1
  simp [Builtin.copy_, run_underlying Yba.underlying83, Builtin.lenOf, Builtin.firstCells, sizeOf, typeInfo, hi, hz1, ← hn, ← hl, hl', hst]
theorem run_copy0 (w : World) (ty : TypeId) (d a : Option Addr) (dLen dCap sCap : Nat) :
    (Builtin.copy_ #[83, 83] ty #[.slice d dLen dCap, .slice a 0 sCap]).run Yba.prog w = .ok (goInt 0) w := by
  obtain ⟨i0, hi, hz0, hz1, hz2⟩ := info_parts info112
  cases d <;> cases a <;> simp [Builtin.copy_, run_underlying Yba.underlying83, Builtin.lenOf, Builtin.firstCells, sizeOf, typeInfo, hi, storeCells, loadCells, loadCellsFrom]
theorem step_copy0 {ops : Array Oper} {o : Oper} {a : Act} {w : World} {K : Act → World → Prop} {Q : Exit → Act → World → Prop} {E : Prop} (hg : o.guard = none) (s x : Operand)
    (hop : o.op = Op.call { callee := Callee.builtin Builtin.copy, args := #[s, x], argTypes := #[83, 83] }) (d b : Option Addr) (dLen dCap sCap : Nat) (hs : a.eval s = .slice d dLen dCap) (hx : a.eval x = .slice b 0 sCap)
    (hK : K (a.put o.dst (goInt 0)) w) : if Region.wanted o (yielded ops a.tmps) = true then Oper.wp Yba.prog o a w K Q else E := by
  have hw : Region.wanted o (yielded ops a.tmps) = true := by simp [Region.wanted, hg]
  rw [if_pos hw]
  have hr := run_copy0 w o.type d b dLen dCap sCap
  unfold Oper.wp execOp
  simp only [hop, resolve, invoke, builtin, Sem.run_bind, Sem.run_pure, Result.andThen_ok, List.map_toArray, List.map_cons, List.map_nil, hs, hx, hr]
  exact hK
theorem step_copy3 {ops : Array Oper} {o : Oper} {a : Act} {w : World} {K : Act → World → Prop} {Q : Exit → Act → World → Prop} {E : Prop} (hgd : o.guard = none) (s x : Operand)
    (hop : o.op = Op.call { callee := Callee.builtin Builtin.copy, args := #[s, x], argTypes := #[83, 83] }) (g dLen dCap : Nat) (b : Addr) (sLen sCap n : Nat) (hs : a.eval s = .slice (some ⟨g, 0, none⟩) dLen dCap) (hx : a.eval x = .slice (some b) sLen sCap)
    (cur : Array Value) (cs : List Value) (hg : w.heap[g]? = some (.cells cur 112)) (hn : n = Nat.min sLen dLen) (hl : cs.length = n * 3)
    (hsrc : ∀ j v, cs[j]? = some v → w.cell? (b.add j) = some v) (hfit : cs.length ≤ cur.size) (h1 : ∀ v ∈ cs, v.oneCell' = true)
    (hK : ∀ w', w'.heap[g]? = some (.cells (cs ++ cur.toList.drop cs.length).toArray 112) → Fr (fun j => j = g) w w' → K (a.put o.dst (goInt n)) w') : if Region.wanted o (yielded ops a.tmps) = true then Oper.wp Yba.prog o a w K Q else E := by
  have hw : Region.wanted o (yielded ops a.tmps) = true := by simp [Region.wanted, hgd]
  rw [if_pos hw]
  have hr := run_copy3 w o.type g dLen dCap b sLen sCap n cur cs hg hn hl hsrc hfit h1
  unfold Oper.wp execOp
  simp only [hop, resolve, invoke, builtin, Sem.run_bind, Sem.run_pure, Result.andThen_ok, List.map_toArray, List.map_cons, List.map_nil, hs, hx, hr]
  exact hK _ (setRow_heap w g cur _ 112 _ hg) ⟨rfl, rfl, rfl, by simp, fun j _ hj => setRow_other w g j _ hj⟩

theorem make_ring (N : Nat) (hN : N ≤ 1024) : ∃ Z : Array Value, Z.size = N * 3 ∧ ∀ w : World, (Instr.makeSlice 83 (.int .i64 (N : Int)) (.int .i64 (N : Int))).run Yba.prog w = .ok (.slice (some ⟨w.heap.size, 0, none⟩) N N) (w.alloc (.cells Z 112)) := by
  obtain ⟨i0, hi, hz0, hz1, hz2⟩ := info_parts info112
  refine ⟨madeCells (Value.cells (.agg #[.int .i64 0, .int .u64 0, .nilIface])) (N * 3), by simp [madeCells], fun w => ?_⟩
  have := run_make (P := Yba.prog) (w := w) 83 112 i0 _ Yba.underlying83 hi hz0 .i64 .i64 (N : Int) (N : Int) (by omega) (by omega) (by rw [hz2]; omega) (by omega)
  rw [Int.toNat_natCast, hz1] at this
  exact this
end Go.Proofs.Ybulkanyc
