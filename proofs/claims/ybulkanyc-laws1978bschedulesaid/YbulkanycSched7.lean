/-
  LawS1978BSchedule: run.raise.
-/
import Derived.Test.YbulkanycSched6
import Derived.BigRegion
namespace Go.Proofs.Ybulkanyc
open Go.RowKit
set_option linter.unusedVariables false

/-- The first event of lane l, as headBefore finds it. -/
def FstAt (A : Nat → Int) (ab : Nat → Nat) (lb ln hb l k : Nat) (w : World) : Prop := ∃ g s c, l < ln ∧ 0 < s ∧ g ≠ hb ∧ w.cell? ⟨lb, l * 4 + 1, none⟩ = some (.slice (some ⟨g, 0, none⟩) s c) ∧ w.cell? ⟨lb, l * 4 + 1 + 1, none⟩ = some (.int .i64 0) ∧
  w.cell? ⟨g, 0, none⟩ = some (.int .i64 (A k)) ∧ w.cell? ⟨g, 1, none⟩ = some (.int .u64 ((k : Int) + 1)) ∧ w.cell? ⟨g, 2, none⟩ = some (.iface 102 (.pointer (some ⟨ab k, 0, none⟩)))

theorem cell_frS {w w' : World} {S : Nat → Prop} {a : Addr} {v : Value} (h : w.cell? a = some v) (f : Fr S w w') (hs : ¬ S a.block) : w'.cell? a = some v := by
  have hl : a.block < w.heap.size := by
    apply Classical.byContradiction
    intro hn
    have e : w.heap[a.block]? = none := by simp; omega
    simp [World.cell?, e] at h
  exact (World.cell?_of_block (f.block _ hl hs)).trans h
theorem FstAt.fr {A : Nat → Int} {ab : Nat → Nat} {lb ln hb l k : Nat} {w w' : World} (h : FstAt A ab lb ln hb l k w) (f : Fr (fun j => j = hb) w w') (hne : lb ≠ hb) : FstAt A ab lb ln hb l k w' := by
  obtain ⟨g, s, c, h1, h2, h3, h4, h5, h6, h7, h8⟩ := h
  exact ⟨g, s, c, h1, h2, h3, cell_frS h4 f hne, cell_frS h5 f hne, cell_frS h6 f h3, cell_frS h7 f h3, cell_frS h8 f h3⟩

structure Rse (A : Nat → Int) (ab : Nat → Nat) (base R lb ln lc hb hc n : Nat) (fs : Nat → Nat) (H0 : List Nat) (w wq : World) (i : Nat) (H : List Nat) : Prop where
  len : H.length = n
  own : wq.ownsRow base 3 1 (.slice (some ⟨hb, 0, none⟩) n hc) n (ints H)
  c9 : wq.cell? ⟨R, 9, none⟩ = some (.slice (some ⟨lb, 0, none⟩) ln lc)
  c10 : wq.cell? ⟨R, 10, none⟩ = some (.slice (some ⟨hb, 0, none⟩) n hc)
  lanes : ∀ l ∈ H0, FstAt A ab lb ln hb l (fs l) wq
  up : Up (fun a b => ltE A (fs a) (fs b)) H i
  perm : H.Perm H0
  fr : Fr (fun j => j = hb) w wq
theorem Rse.keep {A : Nat → Int} {ab : Nat → Nat} {base R lb ln lc hb hc n : Nat} {fs : Nat → Nat} {H0 : List Nat} {w wq wr : World} {i : Nat} {H : List Nat} (p : Rse A ab base R lb ln lc hb hc n fs H0 w wq i H) (hl : lb ≠ hb) (f : Fr (fun _ => False) wq wr) : Rse A ab base R lb ln lc hb hc n fs H0 w wr i H :=
  ⟨p.len, owns_fr p.own f (fun _ _ f => f), cell_fr p.c9 f, cell_fr p.c10 f, fun l hl' => (p.lanes l hl').fr (f.mono (fun _ _ f => f.elim)) hl, p.up, p.perm, p.fr.trans (f.mono (fun _ _ f => f.elim))⟩
theorem Rse.cell {A : Nat → Int} {ab : Nat → Nat} {base R lb ln lc hb hc n : Nat} {fs : Nat → Nat} {H0 : List Nat} {w wq : World} {i : Nat} {H : List Nat} (p : Rse A ab base R lb ln lc hb hc n fs H0 w wq i H) (j : Nat) (hj : j < n) : wq.cell? ⟨hb, j, none⟩ = some (.int .i64 ((H.getD j 0 : Nat) : Int)) := by
  rw [p.own.cellAt j (by omega), ints_get H j (by rw [p.len]; exact hj)]
theorem Rse.at {A : Nat → Int} {ab : Nat → Nat} {base R lb ln lc hb hc n : Nat} {fs : Nat → Nat} {H0 : List Nat} {w wq : World} {i : Nat} {H : List Nat} (p : Rse A ab base R lb ln lc hb hc n fs H0 w wq i H) (j : Nat) (hj : j < n) : FstAt A ab lb ln hb (H.getD j 0) (fs (H.getD j 0)) wq := by
  refine p.lanes _ ((p.perm.mem_iff).1 ?_)
  have hj' : j < H.length := by rw [p.len]; exact hj
  have : H.getD j 0 = H[j] := by simp [List.getD, hj']
  rw [this]
  exact List.getElem_mem hj'
theorem Rse.step {A : Nat → Int} {ab : Nat → Nat} {base R lb ln lc hb hc n : Nat} {fs : Nat → Nat} {H0 : List Nat} {w wq : World} {i : Nat} {H : List Nat} (p : Rse A ab base R lb ln lc hb hc n fs H0 w wq i H) (hl : lb ≠ hb) (hR : R ≠ hb) (h0 : 0 < i) (u : Nat) (hu : u = (i - 1) / 2) (hr : ltE A (fs (H.getD i 0)) (fs (H.getD u 0)) = true) :
    Rse A ab base R lb ln lc hb hc n fs H0 w ((wq.setCell ⟨hb, i, none⟩ (.int .i64 ((H.getD u 0 : Nat) : Int))).setCell ⟨hb, u, none⟩ (.int .i64 ((H.getD i 0 : Nat) : Int))) u (swp H i u) := by
  have f : Fr (fun j => j = hb) wq ((wq.setCell ⟨hb, i, none⟩ (.int .i64 ((H.getD u 0 : Nat) : Int))).setCell ⟨hb, u, none⟩ (.int .i64 ((H.getD i 0 : Nat) : Int))) := ((Fr.refl (fun j => j = hb) wq).setCell (ad := ⟨hb, i, none⟩) (fun _ => rfl) _).setCell (ad := ⟨hb, u, none⟩) (fun _ => rfl) _
  have hi := p.up.lt
  refine ⟨by rw [swp_length]; exact p.len, ?_, cell_frS p.c9 f hR, cell_frS p.c10 f hR, fun l hl' => (p.lanes l hl').fr f hl, ?_, (swp_perm _ _ _ hi (by omega)).trans p.perm, p.fr.trans f⟩
  · have k1 := (p.own.stored i (.int .i64 ((H.getD u 0 : Nat) : Int))).1
    have k2 := (k1.stored u (.int .i64 ((H.getD i 0 : Nat) : Int))).1
    rw [ints_set, ints_set] at k2
    exact k2
  · rw [hu]
    refine Up.step (str_of _ (strE A) fs) p.up h0 ?_
    rw [← hu]
    exact hr

set_option maxHeartbeats 1000000 in
theorem raise_any (A : Nat → Int) (ab : Nat → Nat) (base R lb ln lc hb hc n : Nat) (fs : Nat → Nat) (H0 : List Nat) (w : World) (hs : Rse A ab base R lb ln lc hb hc n fs H0 w w (n - 1) H0) (hl : lb ≠ hb) (hR : R ≠ hb) (hn : 0 < n) (hn2 : n ≤ 600) :
    Calls Yba.prog 22 #[.pointer (some ⟨R, 0, none⟩)] w fun e w' => .returned (.tuple #[]) = e ∧ ∃ H', H'.Perm H0 ∧ Heap (fun a b => ltE A (fs a) (fs b)) H' ∧ w'.ownsRow base 3 1 (.slice (some ⟨hb, 0, none⟩) n hc) n (ints H') ∧ Fr (fun j => j = hb) w w' := by
  have c10 := hs.c10
  have HS := hid hs
  clear hs
  go_enter Yba.func22, Yba.ntmps22
  go_wp2_with fail
  go_loopw [2] (fun v2 wq => ∃ (i : Nat) (H : List Nat), i < n ∧ v2 = .int .i64 (i : Int) ∧ Hid (Rse A ab base R lb ln lc hb hc n fs H0 w wq i H)) (fun v2 _ => (intOf v2).toNat)
  case atStart => exact ⟨n - 1, H0, by omega, by go_num, HS⟩
  case round =>
    obtain ⟨i, H, hi, rfl, hP⟩ := hrel
    by_cases h0 : 0 < i
    · obtain ⟨u, hu⟩ : ∃ u, u = (i - 1) / 2 := ⟨_, rfl⟩
      have Hu := hid hu
      have hui : u < i := by omega
      have hud : ((i : Int) - 1) / 2 = (u : Int) := by omega
      clear hu
      obtain ⟨gi, si, ci, p1, p2, p3, p4, p5, p6, p7, p8⟩ := hP.out.at i hi
      obtain ⟨gj, sj, cj, r1, r2, r3, r4, r5, r6, r7, r8⟩ := hP.out.at u (by omega)
      obtain ⟨x, hx⟩ : ∃ x, x = H.getD i 0 := ⟨_, rfl⟩
      obtain ⟨y, hy⟩ : ∃ y, y = H.getD u 0 := ⟨_, rfl⟩
      have s1 : wr.cell? ⟨hb, i, none⟩ = some (.int .i64 (x : Int)) := by rw [hx]; exact hP.out.cell i hi
      have s2 : wr.cell? ⟨hb, u, none⟩ = some (.int .i64 (y : Int)) := by rw [hy]; exact hP.out.cell u (by omega)
      rw [← hx] at p1 p4 p5 p6 p7 p8
      rw [← hy] at r1 r4 r5 r6 r7 r8
      have Hx := hid hx
      have Hy := hid hy
      have HC := hid (headBefore_any R lb ln lc hb n hc i u x y gi si ci gj sj cj (A (fs x)) ((fs x : Int) + 1) (A (fs y)) ((fs y : Int) + 1) _ _ wr ⟨hP.out.c9, hP.out.c10, s1, s2, p4, p5, r4, r5, p6, p7, p8, r6, r7, r8⟩ hi (by omega) p1 r1 p2 r2)
      clear hx hy p4 p5 p6 p7 p8 r4 r5 r6 r7 r8
      go_wp2_with fail
      simp only [hud]
      refine HC.out.mono ?_
      rintro e w3 ⟨rfl, hw3⟩
      have P3 := hid (hP.out.keep hl hw3)
      have s1 := cell_fr s1 hw3
      have s2 := cell_fr s2 hw3
      have c10 : w3.cell? ⟨R, 10, none⟩ = some (.slice (some ⟨hb, 0, none⟩) n hc) := P3.out.c10
      clear hw3 HC
      have iu : (u : Int) < (n : Int) := by omega
      have ii : (i : Int) < (n : Int) := by omega
      have iu0 : (0 : Int) ≤ (u : Int) := by omega
      cases hb' : bf (A (fs x)) ((fs x : Int) + 1) (A (fs y)) ((fs y : Int) + 1)
      · have hHeap : Hid (Heap (fun a b => ltE A (fs a) (fs b)) H) := hid (P3.out.up.done (by rw [← Hu.out, ← Hx.out, ← Hy.out]; exact hb'))
        go_wp2_with fail
        refine bodyPost_ret (results_none rfl _ _ _) rfl ?_
        exact ⟨rfl, H, P3.out.perm, hHeap.out, P3.out.own, P3.out.fr⟩
      · have z1 : w3.frozen? ⟨hb, i, none⟩ = false := P3.out.own.frozenAt i
        have z2 : w3.frozen? ⟨hb, u, none⟩ = false := P3.out.own.frozenAt u
        have nb : ¬ R = hb := hR
        have lg : hb < w3.heap.size := (P3.out.own.lt hb rfl).2
        have niu : ¬ i = u := by omega
        have nui : ¬ u = i := by omega
        have PS := hid (P3.out.step hl hR h0 u Hu.out (by rw [← Hx.out, ← Hy.out]; exact hb'))
        rw [← Hx.out, ← Hy.out] at PS
        go_wp2_with fail
        go_region
        have PS := hid (PS.out.keep hl ((Fr.refl (fun _ => False) _).drew))
        generalize ((w3.setCell ⟨hb, i, none⟩ (Value.int IntKind.i64 (y : Int))).setCell ⟨hb, u, none⟩ (Value.int IntKind.i64 (x : Int))).drew = w4 at PS ⊢
        clear s1 s2 c10 z1 z2 lg
        go_wp2_with fail
        go_roundw
        case rel => exact ⟨u, swp H i u, by omega, rfl, PS⟩
        case measure => simp [intOf]; omega
    · have hHeap : Hid (Heap (fun a b => ltE A (fs a) (fs b)) H) := hid (by
        have e : i = 0 := by omega
        subst e
        exact hP.out.up.done0)
      go_wp2_with fail
      go_end0
      exact ⟨rfl, H, hP.out.perm, hHeap.out, hP.out.own, hP.out.fr⟩
end Go.Proofs.Ybulkanyc
