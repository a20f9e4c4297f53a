/-
  LawS1978BSchedule: events.push.
-/
import Derived.Test.YbulkanycSched5
import Derived.Test.YbulkanycSched2
namespace Go.Proofs.Ybulkanyc
open Go.RowKit
set_option linter.unusedVariables false

theorem owns_ty {w : World} {base : Nat} {e : TypeId} {size n : Nat} {v : Value} {xs : List Value} (h : w.ownsRow base e size v n xs) {b : Nat} {cs : Array Value} {t : TypeId} (hb : w.heap[b]? = some (.cells cs t)) (hne : e ≠ t) : v.ownBlock ≠ some b := by
  intro hv
  rcases h.2 with ⟨rfl, _⟩ | ⟨g, cap, cur, rfl, _, hg, _⟩
  · simp [Value.ownBlock] at hv
  · simp [Value.ownBlock] at hv
    subst hv
    rw [hb] at hg
    simp at hg
    exact hne hg.2.symm
theorem ev_cells (A : Nat → Int) (ab : Nat → Nat) (k : Nat) {w : World} {b : Nat} {t : TypeId} (h : w.heap[b]? = some (.cells #[.int .i64 (A k), .int .u64 ((k : Int) + 1), .iface 102 (.pointer (some ⟨ab k, 0, none⟩))] t)) : ∀ j u, (ev A ab k)[j]? = some u → w.cell? ((⟨b, 0, none⟩ : Addr).add j) = some u := by
  intro j u hu
  have hadd : (⟨b, 0, none⟩ : Addr).add j = ⟨b, j, none⟩ := by unfold Addr.add; split <;> simp_all
  rw [hadd, cell_of_row _ _ _ _ _ _ h]
  simpa [ev] using hu

/-- What the loop of push keeps. -/
structure Psh (A : Nat → Int) (ab : Nat → Nat) (base R k : Nat) (q : List Nat) (qv : Value) (rc : Array Value) (w : World) (g cap : Nat) (wq : World) (i : Nat) (h : List Nat) : Prop where
  len : h.length = q.length + 1
  own : wq.ownsRow base 112 3 (.slice (some ⟨g, 0, none⟩) (q.length + 1) cap) (q.length + 1) (evs A ab h)
  run : wq.heap[R]? = some (.cells rc 96)
  box : wq.heap[w.heap.size]? = some (.cells #[.int .i64 (A k), .int .u64 ((k : Int) + 1), .iface 102 (.pointer (some ⟨ab k, 0, none⟩))] 112)
  up : Up (ltE A) (h.set i k) i
  perm : (h.set i k).Perm (q ++ [k])
  fr : Fr (fun j => qv.ownBlock = some j) w wq
  gw : qv.ownBlock = some g ∨ w.heap.size + 2 ≤ g

theorem Psh.start {A : Nat → Int} {ab : Nat → Nat} {base R k : Nat} {q : List Nat} {qv : Value} {rc : Array Value} {w WA : World} {g cap : Nat} {w2 : World} (hp : Heap (ltE A) q) (o2 : w2.ownsRow base 112 3 (.slice (some ⟨g, 0, none⟩) (q.length + 1) cap) (q.length + 1) (evs A ab q ++ ev A ab k))
    (g2 : WA.grownBy w2 qv.ownBlock) (f2 : qv.ownBlock = some g ∨ WA.heap.size ≤ g) (hs : WA.heap.size = w.heap.size + 2) (fA : Fr (fun _ => False) w WA)
    (hb : w2.heap[R]? = some (.cells rc 96) ∧ w2.heap[w.heap.size]? = some (.cells #[.int .i64 (A k), .int .u64 ((k : Int) + 1), .iface 102 (.pointer (some ⟨ab k, 0, none⟩))] 112)) : Psh A ab base R k q qv rc w g cap w2 q.length (q ++ [k]) := by
  have e : (q ++ [k]).set q.length k = q ++ [k] := by simp
  refine ⟨by simp, ?_, hb.1, hb.2, ?_, ?_, ?_, ?_⟩
  · rw [evs_append]
    have : evs A ab [k] = ev A ab k := by simp [evs]
    rw [this]; exact o2
  · rw [e]; exact Up.start hp k
  · rw [e]
  · exact (fA.mono (fun _ _ f => f.elim)).trans ((Fr.of_grown g2).mono (fun i _ h => h.symm))
  · rw [← hs]; exact f2
theorem Psh.gR {A : Nat → Int} {ab : Nat → Nat} {base R k : Nat} {q : List Nat} {qv : Value} {rc : Array Value} {w : World} {g cap : Nat} {wq : World} {i : Nat} {h : List Nat} (p : Psh A ab base R k q qv rc w g cap wq i h) : g ≠ R := fun e => owns_ty p.own p.run (by decide) (by simp [Value.ownBlock, e])
theorem Psh.gB {A : Nat → Int} {ab : Nat → Nat} {base R k : Nat} {q : List Nat} {qv : Value} {rc : Array Value} {w : World} {g cap : Nat} {wq : World} {i : Nat} {h : List Nat} (p : Psh A ab base R k q qv rc w g cap wq i h) (hlt : ∀ g, qv.ownBlock = some g → g < w.heap.size) : g ≠ w.heap.size := by
  rcases p.gw with e | e
  · have := hlt g e; omega
  · omega
theorem Psh.cell {A : Nat → Int} {ab : Nat → Nat} {base R k : Nat} {q : List Nat} {qv : Value} {rc : Array Value} {w : World} {g cap : Nat} {wq : World} {i : Nat} {h : List Nat} (p : Psh A ab base R k q qv rc w g cap wq i h) (j c : Nat) (hj : j < q.length + 1) (hc : c < 3) : wq.cell? ⟨g, j * 3 + c, none⟩ = (ev A ab (h.getD j 0))[c]? := by
  rw [p.own.cellAt (j * 3 + c) (by omega), evs_get A ab h j c (by rw [p.len]; exact hj) hc]
theorem Psh.frozen {A : Nat → Int} {ab : Nat → Nat} {base R k : Nat} {q : List Nat} {qv : Value} {rc : Array Value} {w : World} {g cap : Nat} {wq : World} {i : Nat} {h : List Nat} (p : Psh A ab base R k q qv rc w g cap wq i h) (j : Nat) : wq.frozen? ⟨g, j, none⟩ = false := p.own.frozenAt j
theorem Psh.keep {A : Nat → Int} {ab : Nat → Nat} {base R k : Nat} {q : List Nat} {qv : Value} {rc : Array Value} {w : World} {g cap : Nat} {wq wr : World} {i : Nat} {h : List Nat} (p : Psh A ab base R k q qv rc w g cap wq i h) (f : Fr (fun _ => False) wq wr) : Psh A ab base R k q qv rc w g cap wr i h :=
  ⟨p.len, owns_fr p.own f (fun _ _ f => f), (f.block _ (lt_of_block p.run) (fun f => f)).trans p.run, (f.block _ (lt_of_block p.box) (fun f => f)).trans p.box, p.up, p.perm, p.fr.trans (f.mono (fun _ _ f => f.elim)), p.gw⟩
/-- Three cells of an event stored. -/
theorem owns_set3 {A : Nat → Int} {ab : Nat → Nat} {base g n cap : Nat} {h : List Nat} {wq : World} (o : wq.ownsRow base 112 3 (.slice (some ⟨g, 0, none⟩) n cap) n (evs A ab h)) (j x : Nat) :
    (((wq.setCell ⟨g, j * 3, none⟩ (.int .i64 (A x))).setCell ⟨g, j * 3 + 1, none⟩ (.int .u64 ((x : Int) + 1))).setCell ⟨g, j * 3 + 2, none⟩ (.iface 102 (.pointer (some ⟨ab x, 0, none⟩)))).ownsRow base 112 3 (.slice (some ⟨g, 0, none⟩) n cap) n (evs A ab (h.set j x)) := by
  have k1 := (o.stored (j * 3) (.int .i64 (A x))).1
  have k2 := (k1.stored (j * 3 + 1) (.int .u64 ((x : Int) + 1))).1
  have k3 := (k2.stored (j * 3 + 2) (.iface 102 (.pointer (some ⟨ab x, 0, none⟩)))).1
  rw [evs_set] at k3
  exact k3
theorem fr_set3 {g : Nat} (wq : World) (a b c : Nat) (u v x : Value) : Fr (fun j => j = g) wq (((wq.setCell ⟨g, a, none⟩ u).setCell ⟨g, b, none⟩ v).setCell ⟨g, c, none⟩ x) :=
  (((Fr.refl (fun j => j = g) wq).setCell (ad := ⟨g, a, none⟩) (fun _ => rfl) _).setCell (ad := ⟨g, b, none⟩) (fun _ => rfl) _).setCell (ad := ⟨g, c, none⟩) (fun _ => rfl) _
theorem Psh.step {A : Nat → Int} {ab : Nat → Nat} {base R k : Nat} {q : List Nat} {qv : Value} {rc : Array Value} {w : World} {g cap : Nat} {wq : World} {i : Nat} {h : List Nat} (p : Psh A ab base R k q qv rc w g cap wq i h) (hlt : ∀ g, qv.ownBlock = some g → g < w.heap.size) (h0 : 0 < i) (u : Nat) (hu : u = (i - 1) / 2) (hr : ltE A k (h.getD u 0) = true) :
    Psh A ab base R k q qv rc w g cap (((wq.setCell ⟨g, i * 3, none⟩ (.int .i64 (A (h.getD u 0)))).setCell ⟨g, i * 3 + 1, none⟩ (.int .u64 ((h.getD u 0 : Int) + 1))).setCell ⟨g, i * 3 + 2, none⟩ (.iface 102 (.pointer (some ⟨ab (h.getD u 0), 0, none⟩)))) u (h.set i (h.getD u 0)) := by
  have f := fr_set3 (g := g) wq (i * 3) (i * 3 + 1) (i * 3 + 2) (.int .i64 (A (h.getD u 0))) (.int .u64 ((h.getD u 0 : Int) + 1)) (.iface 102 (.pointer (some ⟨ab (h.getD u 0), 0, none⟩)))
  have hi : i < h.length := by have := p.up.lt; simpa using this
  have hui : u ≠ i := by omega
  have ga : (h.set i k).getD i 0 = k := by rw [getD_set _ _ _ _ hi, if_pos rfl]
  have gb : (h.set i k).getD u 0 = h.getD u 0 := by rw [getD_set _ _ _ _ hi, if_neg hui]
  have e : (h.set i (h.getD u 0)).set u k = swp (h.set i k) i u := by
    unfold swp
    rw [ga, gb, List.set_set]
  refine ⟨by simp [p.len], owns_set3 p.own i (h.getD u 0), (f.block _ (lt_of_block p.run) (fun e => p.gR e.symm)).trans p.run, (f.block _ (lt_of_block p.box) (fun e => p.gB hlt e.symm)).trans p.box, ?_, ?_, ?_, p.gw⟩
  · rw [e, hu]
    refine Up.step (strE A) p.up h0 ?_
    rw [ga, ← hu, gb]
    exact hr
  · rw [e]
    exact (swp_perm _ _ _ (by simpa using hi) (by simp; omega)).trans p.perm
  · refine p.fr.trans' f ?_
    intro j hj e
    subst e
    rcases p.gw with e | e
    · exact e
    · omega

set_option maxHeartbeats 1000000 in
theorem push_any (A : Nat → Int) (ab : Nat → Nat) (base R k : Nat) (q : List Nat) (qv : Value) (rc : Array Value) (w : World) (hR : w.heap[R]? = some (.cells rc 96)) (h5 : rc[5]? = some qv)
    (hown : w.ownsRow base 112 3 qv q.length (evs A ab q)) (hheap : Heap (ltE A) q) (hlen : q.length ≤ 600) (hbase : base ≤ w.heap.size) :
    Calls Yba.prog 23 #[.pointer (some ⟨R, 5, none⟩), .agg #[.int .i64 (A k), .int .u64 ((k : Int) + 1), .iface 102 (.pointer (some ⟨ab k, 0, none⟩))]] w fun e w' => .returned (.tuple #[]) = e ∧
      ∃ (g cap : Nat) (q' : List Nat), q'.Perm (q ++ [k]) ∧ Heap (ltE A) q' ∧ w'.ownsRow base 112 3 (.slice (some ⟨g, 0, none⟩) q'.length cap) q'.length (evs A ab q') ∧
        w'.heap[R]? = some (.cells (rc.setIfInBounds 5 (.slice (some ⟨g, 0, none⟩) q'.length cap)) 96) ∧ (qv.ownBlock = some g ∨ w.heap.size ≤ g) ∧ Fr (fun j => j = R ∨ qv.ownBlock = some j) w w' := by
  obtain ⟨i0, hi, hz0, hz1, hz2⟩ := info_parts info112
  have hRs := lt_of_block hR
  have c5 : w.cell? ⟨R, 5, none⟩ = some qv := (cell_of_row _ _ _ _ _ _ hR).trans h5
  have HR := hid hR
  have H5 := hid h5
  have HO := hid hown
  have HH := hid hheap
  have HL := hid hlen
  have HB := hid hbase
  have hne := hid (owns_ty hown hR (by decide))
  obtain ⟨E, hE⟩ : ∃ E : Array Value, E = #[.int .i64 (A k), .int .u64 ((k : Int) + 1), .iface 102 (.pointer (some ⟨ab k, 0, none⟩))] := ⟨_, rfl⟩
  have fA : Fr (fun _ => False) w ((w.alloc (.cells #[.int .i64 (A k), .int .u64 ((k : Int) + 1), .iface 102 (.pointer (some ⟨ab k, 0, none⟩))] 112)).alloc (.cells #[.int .i64 (A k), .int .u64 ((k : Int) + 1), .iface 102 (.pointer (some ⟨ab k, 0, none⟩))] 112)).drew := (((Fr.refl _ w).alloc _).alloc _).drew
  have OW := hid (owns_fr hown fA (fun _ _ f => f))
  have hb0 : ((w.alloc (.cells #[.int .i64 (A k), .int .u64 ((k : Int) + 1), .iface 102 (.pointer (some ⟨ab k, 0, none⟩))] 112)).alloc (.cells #[.int .i64 (A k), .int .u64 ((k : Int) + 1), .iface 102 (.pointer (some ⟨ab k, 0, none⟩))] 112)).drew.heap[w.heap.size]? = some (.cells #[.int .i64 (A k), .int .u64 ((k : Int) + 1), .iface 102 (.pointer (some ⟨ab k, 0, none⟩))] 112) := row_alloc (heap_new w _)
  have hb1 : ((w.alloc (.cells #[.int .i64 (A k), .int .u64 ((k : Int) + 1), .iface 102 (.pointer (some ⟨ab k, 0, none⟩))] 112)).alloc (.cells #[.int .i64 (A k), .int .u64 ((k : Int) + 1), .iface 102 (.pointer (some ⟨ab k, 0, none⟩))] 112)).drew.heap[w.heap.size + 1]? = some (.cells #[.int .i64 (A k), .int .u64 ((k : Int) + 1), .iface 102 (.pointer (some ⟨ab k, 0, none⟩))] 112) := by
    have := heap_new (w.alloc (.cells #[.int .i64 (A k), .int .u64 ((k : Int) + 1), .iface 102 (.pointer (some ⟨ab k, 0, none⟩))] 112)) (.cells #[.int .i64 (A k), .int .u64 ((k : Int) + 1), .iface 102 (.pointer (some ⟨ab k, 0, none⟩))] 112)
    rw [size_new] at this
    exact this
  have hR1 := (fA.block R hRs (fun f => f)).trans hR
  have NW := hid (ev_cells A ab k hb1)
  have hsz : ((w.alloc (.cells #[.int .i64 (A k), .int .u64 ((k : Int) + 1), .iface 102 (.pointer (some ⟨ab k, 0, none⟩))] 112)).alloc (.cells #[.int .i64 (A k), .int .u64 ((k : Int) + 1), .iface 102 (.pointer (some ⟨ab k, 0, none⟩))] 112)).drew.heap.size = w.heap.size + 2 := by
    show ((w.alloc _).alloc _).heap.size = _
    rw [size_new, size_new]
  generalize hWA : ((w.alloc (.cells #[.int .i64 (A k), .int .u64 ((k : Int) + 1), .iface 102 (.pointer (some ⟨ab k, 0, none⟩))] 112)).alloc (.cells #[.int .i64 (A k), .int .u64 ((k : Int) + 1), .iface 102 (.pointer (some ⟨ab k, 0, none⟩))] 112)).drew = WA at *
  have ownlt : ∀ g, qv.ownBlock = some g → g < w.heap.size := fun g hg => (hown.lt g hg).2
  have KP := hid (show ∀ W', WA.grownBy W' qv.ownBlock → W'.heap[R]? = some (.cells rc 96) ∧ W'.heap[w.heap.size]? = some (.cells #[.int .i64 (A k), .int .u64 ((k : Int) + 1), .iface 102 (.pointer (some ⟨ab k, 0, none⟩))] 112) from fun W' hg =>
    ⟨(hg.block R (by omega) (fun e => hne.out e.symm)).trans hR1, (hg.block w.heap.size (by omega) (fun e => by have := ownlt _ e.symm; omega)).trans hb0⟩)
  have G : Hid (∀ W : World, W.heap[R]? = some (.cells rc 96) ∧ W.heap[w.heap.size]? = some (.cells #[.int .i64 (A k), .int .u64 ((k : Int) + 1), .iface 102 (.pointer (some ⟨ab k, 0, none⟩))] 112) → W.cell? ⟨R, 5, none⟩ = some qv ∧ W.cell? ⟨w.heap.size, 0, none⟩ = some (.int .i64 (A k)) ∧ W.cell? ⟨w.heap.size, 1, none⟩ = some (.int .u64 ((k : Int) + 1)) ∧ W.cell? ⟨w.heap.size, 2, none⟩ = some (.iface 102 (.pointer (some ⟨ab k, 0, none⟩)))) := hid (fun W ⟨h1, h2⟩ =>
    ⟨(cell_of_row _ _ _ _ _ _ h1).trans H5.out, cell_of_row _ _ _ _ _ _ h2, cell_of_row _ _ _ _ _ _ h2, cell_of_row _ _ _ _ _ _ h2⟩)
  have G0 := hid (G.out (w.alloc (.cells #[.int .i64 (A k), .int .u64 ((k : Int) + 1), .iface 102 (.pointer (some ⟨ab k, 0, none⟩))] 112)) ⟨row_alloc hR, heap_new w _⟩)
  have G1 := hid (G.out WA ⟨hR1, hb0⟩)
  have one := hid (show ∀ u ∈ ev A ab k, u.oneCell' = true from by intro u hu; simp [ev] at hu; rcases hu with rfl | rfl | rfl <;> rfl)
  have m1 := hid (show q.length + 1 ≤ maxLen from by simp only [maxLen]; omega)
  have m2 := hid (show (q.length + 1) * 32 ≤ 140737488355328 from by omega)
  have m3 := hid (show base ≤ WA.heap.size from by omega)
  have FA := hid fA
  have HWA := hid hWA
  have HSZ := hid hsz
  have HLT := hid ownlt
  clear hR hown hheap hlen hbase fA hb0 hb1 hR1 hsz ownlt
  subst hWA
  go_enter Yba.func23, Yba.ntmps23
  go_wp2_with fail
  go_region_held3 (fun W => W.cell? ⟨R, 5, none⟩ = some qv ∧ W.cell? ⟨w.heap.size, 0, none⟩ = some (.int .i64 (A k)) ∧ W.cell? ⟨w.heap.size, 1, none⟩ = some (.int .u64 ((k : Int) + 1)) ∧ W.cell? ⟨w.heap.size, 2, none⟩ = some (.iface 102 (.pointer (some ⟨ab k, 0, none⟩)))) (first | exact G0.out | exact G1.out | exact G.out _ (KP.out _ ‹_›))
    ((refine step_append_one rfl (.tmp 9) (.tmp 11) 84 rfl base 112 i0 (.agg #[.int .i64 0, .int .u64 0, .nilIface]) 3 32 Yba.underlying84 hi hz0 hz1 hz2 rfl (by decide) qv q.length (evs A ab q) rfl OW.out ⟨w.heap.size + 1, 0, none⟩ 1 (ev A ab k) rfl rfl NW.out one.out m1.out m2.out m3.out ?_; intro g cap w2 o2 g2 f2))
  have P0 := hid (Psh.start (rc := rc) (R := R) HH.out o2 g2 f2 HSZ.out FA.out (KP.out _ g2))
  clear G G0 G1 KP OW NW one m1 m2 m3 FA HSZ o2 g2 f2 hne HO
  rename_i hHeld
  clear hHeld
  have hql : q.length ≤ 600 := HL.out
  go_wp2_with fail
  go_loopw [5] (fun v5 wq => ∃ (i : Nat) (h : List Nat), i ≤ q.length ∧ v5 = .int .i64 (i : Int) ∧ Hid (Psh A ab base R k q qv rc w g cap wq i h)) (fun v5 _ => (intOf v5).toNat)
  case atStart => exact ⟨q.length, q ++ [k], Nat.le_refl _, by go_num, P0⟩
  case round =>
    obtain ⟨i, h, hiq, rfl, hP⟩ := hrel
    have b0 : wr.cell? ⟨w.heap.size, 0, none⟩ = some (.int .i64 (A k)) := cell_of_row _ _ _ _ _ _ hP.out.box
    have b1 : wr.cell? ⟨w.heap.size, 1, none⟩ = some (.int .u64 ((k : Int) + 1)) := cell_of_row _ _ _ _ _ _ hP.out.box
    have b2 : wr.cell? ⟨w.heap.size, 2, none⟩ = some (.iface 102 (.pointer (some ⟨ab k, 0, none⟩))) := cell_of_row _ _ _ _ _ _ hP.out.box
    by_cases h0 : 0 < i
    · obtain ⟨u, hu⟩ : ∃ u, u = (i - 1) / 2 := ⟨_, rfl⟩
      have Hu := hid hu
      have hui : u < i := by omega
      have hud : ((i : Int) - 1) / 2 = (u : Int) := by omega
      clear hu
      have s0 : wr.cell? ⟨g, u * 3, none⟩ = some (.int .i64 (A (h.getD u 0))) := hP.out.cell u 0 (by omega) (by omega)
      have s1 : wr.cell? ⟨g, u * 3 + 1, none⟩ = some (.int .u64 ((h.getD u 0 : Int) + 1)) := hP.out.cell u 1 (by omega) (by omega)
      have s2 : wr.cell? ⟨g, u * 3 + 2, none⟩ = some (.iface 102 (.pointer (some ⟨ab (h.getD u 0), 0, none⟩))) := hP.out.cell u 2 (by omega) (by omega)
      obtain ⟨x, hx⟩ : ∃ x, x = h.getD u 0 := ⟨_, rfl⟩
      rw [← hx] at s0 s1 s2
      have Hx := hid hx
      clear hx
      have HS : Hid (∀ W, Fr (fun _ => False) wr W → W.cell? ⟨w.heap.size, 0, none⟩ = some (.int .i64 (A k)) ∧ W.cell? ⟨w.heap.size, 1, none⟩ = some (.int .u64 ((k : Int) + 1)) ∧ W.cell? ⟨w.heap.size, 2, none⟩ = some (.iface 102 (.pointer (some ⟨ab k, 0, none⟩))) ∧ W.cell? ⟨g, u * 3, none⟩ = some (.int .i64 (A x)) ∧ W.cell? ⟨g, u * 3 + 1, none⟩ = some (.int .u64 ((x : Int) + 1)) ∧ W.cell? ⟨g, u * 3 + 2, none⟩ = some (.iface 102 (.pointer (some ⟨ab x, 0, none⟩)))) := hid (fun W f => ⟨cell_fr b0 f, cell_fr b1 f, cell_fr b2 f, cell_fr s0 f, cell_fr s1 f, cell_fr s2 f⟩)
      have F0 := hid (Fr.refl (fun _ => False) wr)
      have Fd := hid ((Fr.refl (fun _ => False) wr).drew)
      have iu : (u : Int) < (q.length : Int) + 1 := by omega
      have iu0 : (0 : Int) ≤ (u : Int) := by omega
      cases hb : bf (A k) ((k : Int) + 1) (A x) ((x : Int) + 1)
      · go_wp2_with fail
        simp only [hud]
        go_region_held3 (fun W => W.cell? ⟨w.heap.size, 0, none⟩ = some (.int .i64 (A k)) ∧ W.cell? ⟨w.heap.size, 1, none⟩ = some (.int .u64 ((k : Int) + 1)) ∧ W.cell? ⟨w.heap.size, 2, none⟩ = some (.iface 102 (.pointer (some ⟨ab k, 0, none⟩))) ∧ W.cell? ⟨g, u * 3, none⟩ = some (.int .i64 (A x)) ∧ W.cell? ⟨g, u * 3 + 1, none⟩ = some (.int .u64 ((x : Int) + 1)) ∧ W.cell? ⟨g, u * 3 + 2, none⟩ = some (.iface 102 (.pointer (some ⟨ab x, 0, none⟩)))) (first | exact HS.out _ F0.out | exact HS.out _ Fd.out | exact HS.out _ (Fd.out.trans ‹_›)) (((go_at_call 13; refine (before_any _ _ _ _ _ _ _).mono ?_; rintro e w3 ⟨rfl, hw3⟩)))
        have P3 := hid (hP.out.keep (Fd.out.trans hw3))
        have hHeap : Hid (Heap (ltE A) (h.set i k)) := hid (P3.out.up.done (by
          have hl := P3.out.up.lt
          rw [List.length_set] at hl
          rw [getD_set _ _ _ _ hl, if_pos rfl, getD_set _ _ _ _ hl, if_neg (by omega), ← Hu.out, ← Hx.out]
          exact hb))
        clear hw3 HS F0 Fd b0 b1 b2 s0 s1 s2
        have o3 := hid (owns_set3 (A := A) (ab := ab) P3.out.own i k)
        have f3 := hid (fr_set3 (g := g) w3 (i * 3) (i * 3 + 1) (i * 3 + 2) (.int .i64 (A k)) (.int .u64 ((k : Int) + 1)) (.iface 102 (.pointer (some ⟨ab k, 0, none⟩))))
        have l3 : h.length = q.length + 1 := P3.out.len
        have zR : w3.frozen? ⟨R, 5, none⟩ = false := frozen_of_row _ _ _ _ _ P3.out.run
        have yR : w3.cell? ⟨R, 5, none⟩ = some qv := (cell_of_row _ _ _ _ _ _ P3.out.run).trans H5.out
        have ngR : ¬ R = g := fun e => P3.out.gR e.symm
        have q0 : (w3.cell? ⟨g, i * 3, none⟩) = some (.int .i64 (A (h.getD i 0))) := P3.out.cell i 0 (by omega) (by omega)
        have q1 : (w3.cell? ⟨g, i * 3 + 1, none⟩) = some (.int .u64 ((h.getD i 0 : Int) + 1)) := P3.out.cell i 1 (by omega) (by omega)
        have q2 : (w3.cell? ⟨g, i * 3 + 2, none⟩) = some (.iface 102 (.pointer (some ⟨ab (h.getD i 0), 0, none⟩))) := P3.out.cell i 2 (by omega) (by omega)
        have z0 : w3.frozen? ⟨g, i * 3, none⟩ = false := P3.out.frozen _
        have z1 : w3.frozen? ⟨g, i * 3 + 1, none⟩ = false := P3.out.frozen _
        have z2 : w3.frozen? ⟨g, i * 3 + 2, none⟩ = false := P3.out.frozen _
        have lg : g < w3.heap.size := (P3.out.own.lt g rfl).2
        have lR : R < w3.heap.size := lt_of_block P3.out.run
        go_wp2_with fail
        go_end0
        refine ⟨rfl, g, cap, h.set i k, P3.out.perm, hHeap.out, ?_, ?_, ?_, ?_⟩
        · rw [List.length_set, l3]
          exact owns_fr o3.out ((Fr.refl (fun j => j = R) _).setCell (ad := ⟨R, 5, none⟩) (fun _ => rfl) _) (fun j hj e => by simp [Value.ownBlock] at hj; exact ngR (e.symm.trans hj.symm))
        · rw [List.length_set, l3]
          refine heap_setCell_same _ R 5 _ _ _ ?_
          exact (f3.out.block R lR ngR).trans P3.out.run
        · rcases P3.out.gw with e | e
          · exact .inl e
          · exact .inr (by omega)
        · have ga := (P3.out.fr.mono (T := fun j => j = R ∨ qv.ownBlock = some j) (fun _ _ h => .inr h)).trans' f3.out (fun j hj e => by
            subst e
            rcases P3.out.gw with e | e
            · exact .inr e
            · omega)
          exact ga.setCell (ad := ⟨R, 5, none⟩) (fun _ => .inl rfl) _
      · go_wp2_with fail
        simp only [hud]
        go_region_held3 (fun W => W.cell? ⟨w.heap.size, 0, none⟩ = some (.int .i64 (A k)) ∧ W.cell? ⟨w.heap.size, 1, none⟩ = some (.int .u64 ((k : Int) + 1)) ∧ W.cell? ⟨w.heap.size, 2, none⟩ = some (.iface 102 (.pointer (some ⟨ab k, 0, none⟩))) ∧ W.cell? ⟨g, u * 3, none⟩ = some (.int .i64 (A x)) ∧ W.cell? ⟨g, u * 3 + 1, none⟩ = some (.int .u64 ((x : Int) + 1)) ∧ W.cell? ⟨g, u * 3 + 2, none⟩ = some (.iface 102 (.pointer (some ⟨ab x, 0, none⟩)))) (first | exact HS.out _ F0.out | exact HS.out _ Fd.out | exact HS.out _ (Fd.out.trans ‹_›)) (((go_at_call 13; refine (before_any _ _ _ _ _ _ _).mono ?_; rintro e w3 ⟨rfl, hw3⟩)))
        have P3 := hid (hP.out.keep (Fd.out.trans hw3))
        have fr3 := hid (Fd.out.trans hw3)
        have s0 := cell_fr s0 fr3.out
        have s1 := cell_fr s1 fr3.out
        have s2 := cell_fr s2 fr3.out
        clear hw3 HS F0 Fd b0 b1 b2
        have q0 : (w3.cell? ⟨g, i * 3, none⟩) = some (.int .i64 (A (h.getD i 0))) := P3.out.cell i 0 (by omega) (by omega)
        have q1 : (w3.cell? ⟨g, i * 3 + 1, none⟩) = some (.int .u64 ((h.getD i 0 : Int) + 1)) := P3.out.cell i 1 (by omega) (by omega)
        have q2 : (w3.cell? ⟨g, i * 3 + 2, none⟩) = some (.iface 102 (.pointer (some ⟨ab (h.getD i 0), 0, none⟩))) := P3.out.cell i 2 (by omega) (by omega)
        have z0 : w3.frozen? ⟨g, i * 3, none⟩ = false := P3.out.frozen _
        have z1 : w3.frozen? ⟨g, i * 3 + 1, none⟩ = false := P3.out.frozen _
        have z2 : w3.frozen? ⟨g, i * 3 + 2, none⟩ = false := P3.out.frozen _
        have lg : g < w3.heap.size := (P3.out.own.lt g rfl).2
        have PS := hid (P3.out.step HLT.out h0 u Hu.out (by rw [← Hx.out]; exact hb))
        rw [← Hx.out] at PS
        go_wp2_with fail
        go_roundw
        case rel => exact ⟨u, h.set i x, by omega, rfl, PS⟩
        case measure => simp [intOf]; omega
    · have hHeap : Hid (Heap (ltE A) (h.set i k)) := hid (by
        have e : i = 0 := by omega
        subst e
        exact hP.out.up.done0)
      obtain ⟨w3, hw3⟩ : ∃ w3, wr = w3 := ⟨_, rfl⟩
      subst hw3
      have P3 := hP
      clear hP
      have o3 := hid (owns_set3 (A := A) (ab := ab) P3.out.own i k)
      have f3 := hid (fr_set3 (g := g) wr (i * 3) (i * 3 + 1) (i * 3 + 2) (.int .i64 (A k)) (.int .u64 ((k : Int) + 1)) (.iface 102 (.pointer (some ⟨ab k, 0, none⟩))))
      have l3 : h.length = q.length + 1 := P3.out.len
      have zR : wr.frozen? ⟨R, 5, none⟩ = false := frozen_of_row _ _ _ _ _ P3.out.run
      have yR : wr.cell? ⟨R, 5, none⟩ = some qv := (cell_of_row _ _ _ _ _ _ P3.out.run).trans H5.out
      have ngR : ¬ R = g := fun e => P3.out.gR e.symm
      have q0 : (wr.cell? ⟨g, i * 3, none⟩) = some (.int .i64 (A (h.getD i 0))) := P3.out.cell i 0 (by omega) (by omega)
      have q1 : (wr.cell? ⟨g, i * 3 + 1, none⟩) = some (.int .u64 ((h.getD i 0 : Int) + 1)) := P3.out.cell i 1 (by omega) (by omega)
      have q2 : (wr.cell? ⟨g, i * 3 + 2, none⟩) = some (.iface 102 (.pointer (some ⟨ab (h.getD i 0), 0, none⟩))) := P3.out.cell i 2 (by omega) (by omega)
      have z0 : wr.frozen? ⟨g, i * 3, none⟩ = false := P3.out.frozen _
      have z1 : wr.frozen? ⟨g, i * 3 + 1, none⟩ = false := P3.out.frozen _
      have z2 : wr.frozen? ⟨g, i * 3 + 2, none⟩ = false := P3.out.frozen _
      have lg : g < wr.heap.size := (P3.out.own.lt g rfl).2
      have lR : R < wr.heap.size := lt_of_block P3.out.run
      go_wp2_with fail
      go_end0
      refine ⟨rfl, g, cap, h.set i k, P3.out.perm, hHeap.out, ?_, ?_, ?_, ?_⟩
      · rw [List.length_set, l3]
        exact owns_fr o3.out ((Fr.refl (fun j => j = R) _).setCell (ad := ⟨R, 5, none⟩) (fun _ => rfl) _) (fun j hj e => by simp [Value.ownBlock] at hj; exact ngR (e.symm.trans hj.symm))
      · rw [List.length_set, l3]
        refine heap_setCell_same _ R 5 _ _ _ ?_
        exact (f3.out.block R lR ngR).trans P3.out.run
      · rcases P3.out.gw with e | e
        · exact .inl e
        · exact .inr (by omega)
      · have ga := (P3.out.fr.mono (T := fun j => j = R ∨ qv.ownBlock = some j) (fun _ _ h => .inr h)).trans' f3.out (fun j hj e => by
          subst e
          rcases P3.out.gw with e | e
          · exact .inr e
          · omega)
        exact ga.setCell (ad := ⟨R, 5, none⟩) (fun _ => .inl rfl) _
end Go.Proofs.Ybulkanyc
