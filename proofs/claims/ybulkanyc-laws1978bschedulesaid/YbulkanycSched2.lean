/-
  LawS1978BSchedule: run.headBefore.
-/
import Derived.Test.YbulkanycSched1
import Derived.Deep.RegionHeld3
namespace Go.Proofs.Ybulkanyc
open Go.RowKit
set_option linter.unusedVariables false

theorem cell_fr {w w' : World} {a : Addr} {v : Value} (h : w.cell? a = some v) (f : Fr (fun _ => False) w w') : w'.cell? a = some v := by
  have hl : a.block < w.heap.size := by
    apply Classical.byContradiction
    intro hn
    have e : w.heap[a.block]? = none := by simp; omega
    simp [World.cell?, e] at h
  exact (World.cell?_of_block (f.block _ hl (fun f => f))).trans h
/-- What headBefore reads. -/
def HBc (R lb ln lc hb hn hc i j li lj gi si ci gj sj cj : Nat) (ai xi aj xj : Int) (di dj : Value) (W : World) : Prop :=
  W.cell? ⟨R, 9, none⟩ = some (.slice (some ⟨lb, 0, none⟩) ln lc) ∧ W.cell? ⟨R, 10, none⟩ = some (.slice (some ⟨hb, 0, none⟩) hn hc) ∧ W.cell? ⟨hb, i, none⟩ = some (.int .i64 (li : Int)) ∧ W.cell? ⟨hb, j, none⟩ = some (.int .i64 (lj : Int)) ∧ W.cell? ⟨lb, li * 4 + 1, none⟩ = some (.slice (some ⟨gi, 0, none⟩) si ci) ∧ W.cell? ⟨lb, li * 4 + 1 + 1, none⟩ = some (.int .i64 0) ∧ W.cell? ⟨lb, lj * 4 + 1, none⟩ = some (.slice (some ⟨gj, 0, none⟩) sj cj) ∧ W.cell? ⟨lb, lj * 4 + 1 + 1, none⟩ = some (.int .i64 0) ∧ W.cell? ⟨gi, 0, none⟩ = some (.int .i64 ai) ∧ W.cell? ⟨gi, 1, none⟩ = some (.int .u64 xi) ∧ W.cell? ⟨gi, 2, none⟩ = some (di) ∧ W.cell? ⟨gj, 0, none⟩ = some (.int .i64 aj) ∧ W.cell? ⟨gj, 1, none⟩ = some (.int .u64 xj) ∧ W.cell? ⟨gj, 2, none⟩ = some (dj)
theorem HBc.fr {R lb ln lc hb hn hc i j li lj gi si ci gj sj cj : Nat} {ai xi aj xj : Int} {di dj : Value} {W W' : World} (h : HBc R lb ln lc hb hn hc i j li lj gi si ci gj sj cj ai xi aj xj di dj W) (f : Fr (fun _ => False) W W') : HBc R lb ln lc hb hn hc i j li lj gi si ci gj sj cj ai xi aj xj di dj W' := by
  obtain ⟨h1, h2, h3, h4, h5, h6, h7, h8, h9, h10, h11, h12, h13, h14⟩ := h
  exact ⟨cell_fr h1 f, cell_fr h2 f, cell_fr h3 f, cell_fr h4 f, cell_fr h5 f, cell_fr h6 f, cell_fr h7 f, cell_fr h8 f, cell_fr h9 f, cell_fr h10 f, cell_fr h11 f, cell_fr h12 f, cell_fr h13 f, cell_fr h14 f⟩

theorem first_fr (b o g len cap : Nat) (w : World) (hr : w.cell? ⟨b, o, none⟩ = some (.slice (some ⟨g, 0, none⟩) len cap)) (hh : w.cell? ⟨b, o + 1, none⟩ = some (.int .i64 0)) (hl : 0 < len) :
    Calls Yba.prog 14 #[.pointer (some ⟨b, o, none⟩)] w fun r w' => .returned (.pointer (some ⟨g, 0, none⟩)) = r ∧ Fr (fun _ => False) w w' := by
  refine (first_any b o g len cap w hr hh hl).mono ?_
  rintro e w' ⟨rfl, n, rfl⟩
  exact ⟨rfl, (Fr.refl _ w).drewN n⟩

set_option maxHeartbeats 2000000 in
theorem headBefore_any (R lb ln lc hb hn hc i j li lj gi si ci gj sj cj : Nat) (ai xi aj xj : Int) (di dj : Value) (w : World) (H : HBc R lb ln lc hb hn hc i j li lj gi si ci gj sj cj ai xi aj xj di dj w) (bi : i < hn) (bj : j < hn) (bli : li < ln) (blj : lj < ln) (psi : 0 < si) (psj : 0 < sj) :
    Calls Yba.prog 26 #[.pointer (some ⟨R, 0, none⟩), .int .i64 (i : Int), .int .i64 (j : Int)] w fun r w' => .returned (.bool (bf ai xi aj xj)) = r ∧ Fr (fun _ => False) w w' := by
  have G := hid H
  have G2 : Hid (∀ W W', HBc R lb ln lc hb hn hc i j li lj gi si ci gj sj cj ai xi aj xj di dj W → Fr (fun _ => False) W W' → HBc R lb ln lc hb hn hc i j li lj gi si ci gj sj cj ai xi aj xj di dj W') := hid (fun W W' h f => h.fr f)
  have F := hid (Fr.refl (fun _ => False) w)
  have bi' : (i : Int) < (hn : Int) := by omega
  have bj' : (j : Int) < (hn : Int) := by omega
  have bli' : (li : Int) < (ln : Int) := by omega
  have blj' : (lj : Int) < (ln : Int) := by omega
  unfold HBc at G G2 H
  go_enter Yba.func26, Yba.ntmps26
  go_wp2_with fail
  go_region_held3 (fun W => W.cell? ⟨R, 9, none⟩ = some (.slice (some ⟨lb, 0, none⟩) ln lc) ∧ W.cell? ⟨R, 10, none⟩ = some (.slice (some ⟨hb, 0, none⟩) hn hc) ∧ W.cell? ⟨hb, i, none⟩ = some (.int .i64 (li : Int)) ∧ W.cell? ⟨hb, j, none⟩ = some (.int .i64 (lj : Int)) ∧ W.cell? ⟨lb, li * 4 + 1, none⟩ = some (.slice (some ⟨gi, 0, none⟩) si ci) ∧ W.cell? ⟨lb, li * 4 + 1 + 1, none⟩ = some (.int .i64 0) ∧ W.cell? ⟨lb, lj * 4 + 1, none⟩ = some (.slice (some ⟨gj, 0, none⟩) sj cj) ∧ W.cell? ⟨lb, lj * 4 + 1 + 1, none⟩ = some (.int .i64 0) ∧ W.cell? ⟨gi, 0, none⟩ = some (.int .i64 ai) ∧ W.cell? ⟨gi, 1, none⟩ = some (.int .u64 xi) ∧ W.cell? ⟨gi, 2, none⟩ = some (di) ∧ W.cell? ⟨gj, 0, none⟩ = some (.int .i64 aj) ∧ W.cell? ⟨gj, 1, none⟩ = some (.int .u64 xj) ∧ W.cell? ⟨gj, 2, none⟩ = some (dj)) (first | exact G.out | (refine G2.out _ _ ?_ ‹_›; assumption)) (first | (go_at_call_of 14 li; refine (first_fr lb (li * 4 + 1) gi si ci _ (by first | assumption | (simp only [*])) (by first | assumption | (simp only [*])) psi).mono ?_; rintro e w2 ⟨rfl, hw2⟩) | (go_at_call_of 14 lj; refine (first_fr lb (lj * 4 + 1) gj sj cj _ (by first | assumption | (simp only [*])) (by first | assumption | (simp only [*])) psj).mono ?_; rintro e w3 ⟨rfl, hw3⟩) | (go_at_call 13; refine (before_any ai xi aj xj di dj _).mono ?_; rintro e w4 ⟨rfl, hw4⟩))
  have fr := hid (((((Fr.refl (fun _ => False) w).drew).trans hw2).trans hw3).trans hw4)
  clear hw2 hw3 hw4 G G2 H
  go_wp2_with fail
  go_ret
  exact ⟨rfl, fr.out⟩
end Go.Proofs.Ybulkanyc
