/-
  LawS1978BSchedule: run.seen.
-/
import Derived.Test.YbulkanycSched12
namespace Go.Proofs.Ybulkanyc
open Go.RowKit
set_option linter.unusedVariables false

theorem own_shape {w : World} {base : Nat} {e : TypeId} {size n : Nat} {v : Value} {xs : List Value} (h : w.ownsRow base e size v n xs) : ∃ a c, v = .slice a n c := by
  rcases h.2 with ⟨rfl, rfl⟩ | ⟨g, cap, cur, rfl, _⟩
  · exact ⟨none, 0, rfl⟩
  · exact ⟨some ⟨g, 0, none⟩, cap, rfl⟩
theorem lane_cells (span : Int) {w : World} {b : Nat} {t : TypeId} (h : w.heap[b]? = some (.cells #[.int .i64 span, .slice none 0 0, .int .i64 0, .int .i64 0] t)) : ∀ j u, (laneRow (span, .slice none 0 0, []))[j]? = some u → w.cell? ((⟨b, 0, none⟩ : Addr).add j) = some u := by
  intro j u hu
  have hadd : (⟨b, 0, none⟩ : Addr).add j = ⟨b, j, none⟩ := by unfold Addr.add; split <;> simp_all
  rw [hadd, cell_of_row _ _ _ _ _ _ h]
  simpa [laneRow] using hu

/-- What seen leaves. -/
def SeenPost (base R : Nat) (span since : Int) (qv lv hv : Value) (begun : Nat) (Ls : List Lane) (w w' : World) : Prop :=
  ∃ (rc' : Array Value) (lv' : Value) (Ls' : List Lane), w'.heap[R]? = some (.cells rc' 96) ∧ RunOk rc' since qv begun lv' hv ∧ w'.ownsRow base 100 4 lv' Ls'.length (lanesRow Ls') ∧ (Ls' = Ls ∨ (Ls' = Ls ++ [(span, .slice none 0 0, [])] ∧ Ls.length < 8)) ∧
    (∀ g, lv'.ownBlock = some g → lv.ownBlock = some g ∨ w.heap.size ≤ g) ∧ Fr (fun j => j = R ∨ lv.ownBlock = some j) w w'

set_option maxHeartbeats 1000000 in
theorem seen_any (base R : Nat) (span since : Int) (rc : Array Value) (qv lv hv : Value) (begun : Nat) (Ls : List Lane) (w : World) (hR : w.heap[R]? = some (.cells rc 96)) (ok : RunOk rc since qv begun lv hv) (own : w.ownsRow base 100 4 lv Ls.length (lanesRow Ls)) (hf : Ls.length ≤ 8) (hbase : base ≤ w.heap.size) (hs1 : -6 ≤ span) (hs2 : span ≤ 6) :
    Calls Yba.prog 24 #[.pointer (some ⟨R, 0, none⟩), .int .i64 span] w fun e w' => .returned (.tuple #[]) = e ∧ SeenPost base R span since qv lv hv begun Ls w w' := by
  obtain ⟨a, c, rfl⟩ := own_shape own
  have same := hid (show SeenPost base R span since qv (.slice a Ls.length c) hv begun Ls w w from ⟨rc, _, Ls, hR, ok, own, .inl rfl, fun g h => .inl h, Fr.refl _ w⟩)
  have c9 : w.cell? ⟨R, 9, none⟩ = some (.slice a Ls.length c) := (cell_of_row _ _ _ _ _ _ hR).trans ok.c9
  have lR : R < w.heap.size := lt_of_block hR
  have HR := hid hR
  have HK := hid ok
  have HO := hid own
  have HB := hid hbase
  have hf' : (Ls.length : Int) ≤ 8 := by omega
  by_cases h8 : Ls.length = 8
  · have h8' : ((Ls.length : Int) == 8) = true := by simp; omega
    clear hR ok own hbase
    go_enter Yba.func24, Yba.ntmps24
    go_wp2_with fail
    refine bodyPost_ret (results_none rfl _ _ _) rfl ?_
    exact ⟨rfl, same.out⟩
  · have h8' : ((Ls.length : Int) == 8) = false := by simp; omega
    by_cases h0 : span ≤ 0
    · clear hR ok own hbase
      go_enter Yba.func24, Yba.ntmps24
      go_wp2_with fail
      refine bodyPost_ret (results_none rfl _ _ _) rfl ?_
      exact ⟨rfl, same.out⟩
    · have HI := hid (index_any R span w (fun j hj => by obtain ⟨z, hz⟩ := ok.sp j hj; exact ⟨z, (cell_of_row _ _ _ _ _ _ hR).trans hz⟩))
      have HNE := hid (owns_ty own hR (by decide))
      clear hR ok own hbase
      go_enter Yba.func24, Yba.ntmps24
      go_wp2_with fail
      refine HI.out.mono ?_
      rintro e w1 ⟨r, rfl, rfl, hr⟩
      rcases hr with rfl | ⟨j, hj, rfl⟩
      · -- not among the spans: written down
        obtain ⟨sa, hsa, c19⟩ := HK.out.sa
        obtain ⟨z, hz⟩ := HK.out.sp sa hsa
        have d19 : w.cell? ⟨R, 19, none⟩ = some (.int .i64 (sa : Int)) := (cell_of_row _ _ _ _ _ _ HR.out).trans c19
        have d11 : w.cell? ⟨R, 11 + sa, none⟩ = some (.int .i64 z) := (cell_of_row _ _ _ _ _ _ HR.out).trans hz
        have f19 : w.frozen? ⟨R, 19, none⟩ = false := frozen_of_row _ _ _ _ _ HR.out
        have f11 : w.frozen? ⟨R, 11 + sa, none⟩ = false := frozen_of_row _ _ _ _ _ HR.out
        have isa : (sa : Int) < 8 := by omega
        have n1 : ¬ 19 = 11 + sa := by omega
        have n2 : ¬ 11 + sa = 19 := by omega
        obtain ⟨sb, hsb⟩ : ∃ sb : Nat, sb = (sa + 1) % 8 := ⟨_, rfl⟩
        have hsb' : ((sa : Int) + 1) % 8 = (sb : Int) := by omega
        have hsb8 : sb < 8 := by omega
        clear hsb HI
        go_wp2_with fail
        go_region
        go_wp2_with fail
        go_end0
        refine ⟨rfl, (rc.setIfInBounds (11 + sa) (.int .i64 span)).setIfInBounds 19 (.int .i64 (sb : Int)), .slice a Ls.length c, Ls, ?_, (HK.out.setS sa hsa span).setA sb hsb8, ?_, .inl rfl, fun g h => .inl h, ?_⟩
        · refine heap_setCell_same _ R 19 _ _ _ ?_
          exact heap_setCell_same _ R (11 + sa) _ _ _ HR.out
        · exact owns_fr HO.out (S := fun j => j = R) (((Fr.refl (fun j => j = R) w).setCell (ad := ⟨R, 11 + sa, none⟩) (fun _ => rfl) _).drew.setCell (ad := ⟨R, 19, none⟩) (fun _ => rfl) _) (fun g hg e => HNE.out (by rw [hg, e]))
        · exact ((Fr.refl _ w).setCell (ad := ⟨R, 11 + sa, none⟩) (fun _ => .inl rfl) _).drew.setCell (ad := ⟨R, 19, none⟩) (fun _ => .inl rfl) _
      · obtain ⟨z, hz⟩ := HK.out.sp j hj
        have d11 : w.cell? ⟨R, 11 + j, none⟩ = some (.int .i64 z) := (cell_of_row _ _ _ _ _ _ HR.out).trans hz
        have f11 : w.frozen? ⟨R, 11 + j, none⟩ = false := frozen_of_row _ _ _ _ _ HR.out
        have f9 : w.frozen? ⟨R, 9, none⟩ = false := frozen_of_row _ _ _ _ _ HR.out
        have ij : (j : Int) < 8 := by omega
        have n1 : ¬ 9 = 11 + j := by omega
        have n2 : ¬ 11 + j = 9 := by omega
        obtain ⟨i0, hi, hz0, hz1, hz2⟩ := info_parts info100
        have fA : Hid (Fr (fun k => k = R) w ((w.setCell ⟨R, 11 + j, none⟩ (.int .i64 0)).alloc (.cells #[.int .i64 span, .slice none 0 0, .int .i64 0, .int .i64 0] 100))) := hid (((Fr.refl (fun k => k = R) w).setCell (ad := ⟨R, 11 + j, none⟩) (fun _ => rfl) _).alloc _)
        have OW := hid (owns_fr HO.out fA.out (fun g hg e => HNE.out (by rw [hg, e])))
        have hsz : Hid (((w.setCell ⟨R, 11 + j, none⟩ (.int .i64 0)).alloc (.cells #[.int .i64 span, .slice none 0 0, .int .i64 0, .int .i64 0] 100)).heap.size = w.heap.size + 1) := hid (by rw [size_new]; simp [World.setCell])
        have hb1 : Hid (((w.setCell ⟨R, 11 + j, none⟩ (.int .i64 0)).alloc (.cells #[.int .i64 span, .slice none 0 0, .int .i64 0, .int .i64 0] 100)).heap[w.heap.size]? = some (.cells #[.int .i64 span, .slice none 0 0, .int .i64 0, .int .i64 0] 100)) := hid (by
          have := heap_new (w.setCell ⟨R, 11 + j, none⟩ (.int .i64 0)) (.cells #[.int .i64 span, .slice none 0 0, .int .i64 0, .int .i64 0] 100)
          have e : (w.setCell ⟨R, 11 + j, none⟩ (.int .i64 0)).heap.size = w.heap.size := by simp [World.setCell]
          rw [e] at this
          exact this)
        have hRA : Hid (((w.setCell ⟨R, 11 + j, none⟩ (.int .i64 0)).alloc (.cells #[.int .i64 span, .slice none 0 0, .int .i64 0, .int .i64 0] 100)).heap[R]? = some (.cells (rc.setIfInBounds (11 + j) (.int .i64 0)) 96)) := hid (row_alloc (heap_setCell_same _ R (11 + j) _ _ _ HR.out))
        have NW := hid (lane_cells span hb1.out)
        have one := hid (show ∀ u ∈ laneRow (span, .slice none 0 0, []), u.oneCell' = true from by intro u hu; simp [laneRow] at hu; rcases hu with rfl | rfl | rfl <;> rfl)
        have m1 := hid (show Ls.length + 1 ≤ maxLen from by simp only [maxLen]; omega)
        have m2 := hid (show (Ls.length + 1) * 48 ≤ 140737488355328 from by omega)
        have m3 := hid (show base ≤ ((w.setCell ⟨R, 11 + j, none⟩ (.int .i64 0)).alloc (.cells #[.int .i64 span, .slice none 0 0, .int .i64 0, .int .i64 0] 100)).heap.size from by rw [hsz.out]; have := HB.out; omega)
        clear HI
        go_wp2_with (at_builtin; refine wpList_append_one rfl (.tmp 32) (.tmp 35) 86 rfl base 100 i0 (.agg #[.int .i64 0, .slice none 0 0, .int .i64 0, .int .i64 0]) 4 48 Yba.underlying86 hi hz0 hz1 hz2 rfl (by decide) (.slice a Ls.length c) Ls.length (lanesRow Ls) rfl OW.out ⟨w.heap.size, 0, none⟩ 1 (laneRow (span, .slice none 0 0, [])) rfl rfl NW.out one.out m1.out m2.out m3.out ?_; intro g cap w2 o2 g2 f2; have HG2 := hid g2; have HO2 := hid o2; have HF2 := hid f2; have b2 := hid ((g2.block R (by rw [hsz.out]; omega) (fun e => HNE.out e.symm)).trans hRA.out); have c2 : w2.cell? ⟨R, 9, none⟩ = some (.slice a Ls.length c) := (cell_of_row _ _ _ _ _ _ b2.out).trans (HK.out.setS j hj 0).c9; have z2 : w2.frozen? ⟨R, 9, none⟩ = false := frozen_of_row _ _ _ _ _ b2.out; have lR2 : R < w2.heap.size := lt_of_block b2.out; clear o2 g2 f2)
        refine bodyPost_ret (results_none rfl _ _ _) rfl ?_
        refine ⟨rfl, (rc.setIfInBounds (11 + j) (.int .i64 0)).setIfInBounds 9 (.slice (some ⟨g, 0, none⟩) (Ls.length + 1) cap), .slice (some ⟨g, 0, none⟩) (Ls.length + 1) cap, Ls ++ [(span, .slice none 0 0, [])], ?_, (HK.out.setS j hj 0).setL _, ?_, .inr ⟨rfl, by omega⟩, ?_, ?_⟩
        · exact heap_setCell_same _ R 9 _ _ _ b2.out
        · have e1 : lanesRow (Ls ++ [(span, .slice none 0 0, [])]) = lanesRow Ls ++ laneRow (span, .slice none 0 0, []) := by simp [lanesRow]
          have e2 : (Ls ++ [((span, .slice none 0 0, []) : Lane)]).length = Ls.length + 1 := by simp
          rw [e1, e2]
          have hgR : g ≠ R := fun e => owns_ty HO2.out b2.out (by decide) (by simp [Value.ownBlock, e])
          exact owns_fr HO2.out (S := fun k => k = R) ((Fr.refl (fun k => k = R) w2).setCell (ad := ⟨R, 9, none⟩) (fun _ => rfl) _) (fun g' hg' e => by simp [Value.ownBlock] at hg'; exact hgR (hg'.trans e))
        · intro g' hg'
          simp [Value.ownBlock] at hg'
          subst hg'
          rcases HF2.out with h | h
          · exact .inl h
          · exact .inr (by rw [hsz.out] at h; omega)
        · have k1 : Fr (fun k => k = R ∨ (Value.slice a Ls.length c).ownBlock = some k) w w2 := (fA.out.mono (fun _ _ h => .inl h)).trans' (Fr.of_grown HG2.out) (fun k hk h => .inr h.symm)
          exact k1.setCell (ad := ⟨R, 9, none⟩) (fun _ => .inl rfl) _
end Go.Proofs.Ybulkanyc
