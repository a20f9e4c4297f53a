/-
  schedule.holds.
-/
import Derived.Test.YbulkanycHold
import Derived.BigRegion
import Derived.Laws.Append
namespace Go.Proofs.Ybulkanyc
open Go.RowKit
set_option linter.unusedVariables false

set_option maxHeartbeats 1000000 in
theorem holds_old (S P H p : Nat) (t : Int) (w : World) (hP : P < w.heap.size) (hf : w.cell? ⟨P, 9, none⟩ = some (.bool true))
    (A : Hid (∀ wx, Fr (fun _ => False) w wx → Calls Yba.prog 19 #[.pointer (some ⟨P, 13, none⟩), .pointer (some ⟨H, 0, none⟩)] wx fun e w' => .returned (.bool false) = e ∧ ∃ n, wx.drewN n = w')) :
    Calls Yba.prog 8 #[.pointer (some ⟨S, 0, none⟩), .pointer (some ⟨P, 0, none⟩), .pointer (some ⟨H, 0, none⟩), .agg #[.int .u64 t, .int .i64 0, .pointer none]] w fun e w' => .returned (.tuple #[]) = e ∧ Fr (fun _ => False) w w' := by
  go_enter Yba.func8, Yba.ntmps8
  go_wp2_with fail
  refine (A.out _ ((Fr.refl _ w).alloc _)).mono ?_
  rintro e w1 ⟨rfl, n, rfl⟩
  go_wp2_with fail
  go_end0
  exact ⟨rfl, ((Fr.refl _ w).alloc _).drewN _⟩

/-- The cells of a followed source. -/
def src (told grew : Bool) (m c t : Int) (f mb mp rb : Nat) : Array Value := #[.int .i64 0, .int .u64 0, .int .i64 0, .pointer none, .int .i64 0, .int .u64 0, .bool grew, .bool told, .bool false, .bool true, .string { data := #[97] }, .bool false,
  .pointer (some ⟨rb, 0, none⟩), .int .u64 m, .int .u64 0, .int .u64 0, .int .u64 0, .slice none 0 0, .int .i64 c, .map (some mp), .bool false, .int .i64 0, .int .u64 0, .bool false, .int .u64 0, .int .i64 0, .pointer none,
  .int .u64 t, .int .i64 0, .pointer none, .float .f64 f, .pointer (some ⟨mb, 0, none⟩), .int .u64 0, .int .i64 0, .pointer none, .int .i64 0, .nilFunc]

set_option maxHeartbeats 2000000 in
theorem holds_new (S P H MB p : Nat) (t m c told0 : Int) (f g mx mp rb : Nat) (told grew : Bool) (hc mc : Array Value) (mt : TypeId) (w : World)
    (hP : w.heap[P]? = some (.cells (src told grew m c told0 f MB mp rb) 52)) (hH : w.heap[H]? = some (.cells hc 59)) (hM : w.heap[MB]? = some (.cells mc mt)) (hne : H ≠ P) (hne2 : MB ≠ P)
    (h8 : hc[8]? = some (.int .i64 (p : Int))) (h9 : hc[9]? = some (.float .f64 g)) (h20 : hc[20]? = some (.slice none 0 0)) (hm0 : mc[0]? = some (.slice none 0 0))
    (hp : p < 64) (hbit : (bits .and .u64 m (IntKind.u64.wrap (2 ^ p)) != 0) = false) (hc0 : 0 ≤ c) (hc1 : c ≤ 2000)
    (hmax : ∀ wx, (Builtin.max_ #[38, 38] 38 #[.float .f64 f, .float .f64 g]).run Yba.prog wx = .ok (.float .f64 mx) wx) :
    Calls Yba.prog 8 #[.pointer (some ⟨S, 0, none⟩), .pointer (some ⟨P, 0, none⟩), .pointer (some ⟨H, 0, none⟩), .agg #[.int .u64 t, .int .i64 0, .pointer none]] w fun e w' =>
      .returned (.tuple #[]) = e ∧ ∃ (gb cap : Nat) (xs : Array Value), w'.heap[P]? = some (.cells (src told told (bits .or .u64 m (IntKind.u64.wrap (2 ^ p))) (c + 1) t mx MB mp rb) 52) ∧
        w'.heap[H]? = some (.cells (hc.setIfInBounds 20 (.slice (some ⟨gb, 0, none⟩) 1 cap)) 59) ∧ w.heap.size ≤ gb ∧ w'.heap[gb]? = some (.cells (#[.pointer (some ⟨P, 0, none⟩)] ++ xs) 41) ∧ Fr (fun k => k = P ∨ k = H) w w' := by
  have hPs := lt_of_block hP
  have hHs := lt_of_block hH
  have hMs := lt_of_block hM
  have hf : w.cell? ⟨P, 9, none⟩ = some (.bool true) := cell_of_row _ _ _ _ _ _ hP
  -- fileSet.add
  have A : ∀ wx, Fr (fun _ => False) w wx → Calls Yba.prog 19 #[.pointer (some ⟨P, 13, none⟩), .pointer (some ⟨H, 0, none⟩)] wx fun e w' => .returned (.bool true) = e ∧ Fr (fun k => k = P) wx w' ∧
      w'.heap[P]? = some (.cells (src told grew (bits .or .u64 m (IntKind.u64.wrap (2 ^ p))) (c + 1) told0 f MB mp rb) 52) := by
    intro wx hfr
    have b1 := (hfr.block P hPs (fun f => f)).trans hP
    have b2 := (hfr.block H hHs (fun f => f)).trans hH
    refine (add_new P 13 H p m wx (lt_of_block b1) (lt_of_block b2) hp (by omega) (by omega) (by rw [cell_of_row _ _ _ _ _ _ b2]; exact h8) (cell_of_row _ _ _ _ _ _ b1) c hbit (frozen_of_row _ _ _ _ _ b1) (frozen_of_row _ _ _ _ _ b1) (cell_of_row _ _ _ _ _ _ b1) hc0 hc1).mono ?_
    rintro e w' ⟨he, n, rfl⟩
    refine ⟨he, ((((Fr.refl (fun k => k = P) wx).drewN n).setCell (ad := ⟨P, 13, none⟩) (fun _ => rfl) _).setCell (ad := ⟨P, 18, none⟩) (fun _ => rfl) _), ?_⟩
    have b3 : (wx.drewN n).heap[P]? = some (.cells (src told grew m c told0 f MB mp rb) 52) := b1
    have b4 := heap_setCell_same _ P 13 _ _ (.int .u64 (bits .or .u64 m (IntKind.u64.wrap (2 ^ p)))) b3
    exact heap_setCell_same _ P 18 _ _ (.int .i64 (c + 1)) b4
  have A' := hid A
  have HP := hid hP
  have HH := hid hH
  have HM := hid hM
  have H8 := hid h8
  have H9 := hid h9
  have H20 := hid h20
  have HM0 := hid hm0
  clear A hP hH hM h8 h9 h20 hm0 hbit hc0 hc1
  obtain ⟨m2, hm2⟩ : ∃ m2, m2 = bits .or .u64 m (IntKind.u64.wrap (2 ^ p)) := ⟨_, rfl⟩
  rw [← hm2] at A' ⊢
  clear hm2
  go_enter Yba.func8, Yba.ntmps8
  go_wp2_with fail
  refine (A'.out _ ((Fr.refl _ w).alloc _)).mono ?_
  rintro e w1 ⟨rfl, fr, hP1⟩
  have hH1 : w1.heap[H]? = some (.cells hc 59) := (fr.block H (by simp; omega) hne).trans (row_alloc HH.out)
  have hM1 : w1.heap[MB]? = some (.cells mc mt) := (fr.block MB (by simp; omega) hne2).trans (row_alloc HM.out)
  have hT1 : w1.heap[w.heap.size]? = some (.cells #[.int .u64 t, .int .i64 0, .pointer none] 37) := (fr.block w.heap.size (by simp) (by omega)).trans (heap_new w _)
  have hsz : w.heap.size + 1 ≤ w1.heap.size := by have := fr.size; simpa using this
  have c31 : w1.cell? ⟨P, 31, none⟩ = some (.pointer (some ⟨MB, 0, none⟩)) := cell_of_row _ _ _ _ _ _ hP1
  have c30 : w1.cell? ⟨P, 30, none⟩ = some (.float .f64 f) := cell_of_row _ _ _ _ _ _ hP1
  have c7 : w1.cell? ⟨P, 7, none⟩ = some (.bool told) := cell_of_row _ _ _ _ _ _ hP1
  have z27 : w1.cell? ⟨P, 27, none⟩ = some (.int .u64 told0) := cell_of_row _ _ _ _ _ _ hP1
  have z28 : w1.cell? ⟨P, 28, none⟩ = some (.int .i64 0) := cell_of_row _ _ _ _ _ _ hP1
  have z29 : w1.cell? ⟨P, 29, none⟩ = some (.pointer none) := cell_of_row _ _ _ _ _ _ hP1
  have z6 : w1.cell? ⟨P, 6, none⟩ = some (.bool grew) := cell_of_row _ _ _ _ _ _ hP1
  have y27 : w1.frozen? ⟨P, 27, none⟩ = false := frozen_of_row _ _ _ _ _ hP1
  have y28 : w1.frozen? ⟨P, 28, none⟩ = false := frozen_of_row _ _ _ _ _ hP1
  have y29 : w1.frozen? ⟨P, 29, none⟩ = false := frozen_of_row _ _ _ _ _ hP1
  have y30 : w1.frozen? ⟨P, 30, none⟩ = false := frozen_of_row _ _ _ _ _ hP1
  have y6 : w1.frozen? ⟨P, 6, none⟩ = false := frozen_of_row _ _ _ _ _ hP1
  have c9 : w1.cell? ⟨H, 9, none⟩ = some (.float .f64 g) := (cell_of_row _ _ _ _ _ _ hH1).trans H9.out
  have cm : w1.cell? ⟨MB, 0, none⟩ = some (.slice none 0 0) := (cell_of_row _ _ _ _ _ _ hM1).trans HM0.out
  have t0 : w1.cell? ⟨w.heap.size, 0, none⟩ = some (.int .u64 t) := cell_of_row _ _ _ _ _ _ hT1
  have t1 : w1.cell? ⟨w.heap.size, 1, none⟩ = some (.int .i64 0) := cell_of_row _ _ _ _ _ _ hT1
  have t2 : w1.cell? ⟨w.heap.size, 2, none⟩ = some (.pointer none) := cell_of_row _ _ _ _ _ _ hT1
  have hstf : ∀ (a : Addr) (n : Nat) (m : Mode) (W : World), (store a (.float .f64 n) m).run Yba.prog W = stored Yba.prog W a (.float .f64 n) m := fun a n m W => run_store Yba.prog W a _ m rfl
  have HP1 := hid hP1
  have HH1 := hid hH1
  have FR := hid fr
  clear fr hP1 hH1 hM1 hT1
  go_wp2_with fail
  refine wp_loop_rounds 1 ?_
  rw [rounds_succ]
  go_wp2_with fail
  go_region
  generalize hw2 : (((((w1.setCell ⟨P, 27, none⟩ (Value.int IntKind.u64 t)).setCell ⟨P, 28, none⟩ (Value.int IntKind.i64 0)).setCell ⟨P, 29, none⟩ (Value.pointer none)).setCell ⟨P, 30, none⟩ (Value.float FloatKind.f64 mx)).setCell ⟨P, 6, none⟩ (Value.bool told)).drew = w2
  have hs2 : w2.heap.size = w1.heap.size := by rw [← hw2]; simp [World.setCell, World.drew]
  have hP2 : w2.heap[P]? = some (.cells (src told told m2 (c + 1) t mx MB mp rb) 52) := by
    rw [← hw2]
    have b1 := heap_setCell_same _ P 27 _ _ (Value.int IntKind.u64 t) HP1.out
    have b2 := heap_setCell_same _ P 28 _ _ (Value.int IntKind.i64 0) b1
    have b3 := heap_setCell_same _ P 29 _ _ (Value.pointer none) b2
    have b4 := heap_setCell_same _ P 30 _ _ (Value.float FloatKind.f64 mx) b3
    exact heap_setCell_same _ P 6 _ _ (Value.bool told) b4
  have F2 : Fr (fun k => k = P) w1 w2 := by
    rw [← hw2]
    exact ((((((Fr.refl (fun k => k = P) w1).setCell (ad := ⟨P, 27, none⟩) (fun _ => rfl) _).setCell (ad := ⟨P, 28, none⟩) (fun _ => rfl) _).setCell (ad := ⟨P, 29, none⟩) (fun _ => rfl) _).setCell (ad := ⟨P, 30, none⟩) (fun _ => rfl) _).setCell (ad := ⟨P, 6, none⟩) (fun _ => rfl) _).drew
  have hH2b : w2.heap[H]? = some (.cells hc 59) := (F2.block H (lt_of_block HH1.out) hne).trans HH1.out
  have h20 : w2.cell? ⟨H, 20, none⟩ = some (.slice none 0 0) := (cell_of_row _ _ _ _ _ _ hH2b).trans H20.out
  have f20 : w2.frozen? ⟨H, 20, none⟩ = false := frozen_of_row _ _ _ _ _ hH2b
  have hH2 : H < w2.heap.size := lt_of_block hH2b
  have P2 := hid hP2
  have HB := hid hH2b
  have FF := hid F2
  have HS := hid hs2
  have HZ := hid hsz
  clear hw2 y27 y28 y29 y30 y6 z27 z28 z29 z6 c31 c30 c7 c9 cm t0 t1 t2 hmax hstf hs2 hP2 F2 hH2b hsz
  go_wp2_with fail
  go_end0
  have hw2s : w.heap.size ≤ w2.heap.size := by rw [HS.out]; have := HZ.out; omega
  refine ⟨rfl, w2.heap.size + 1, (Question.appendCap 1 0 41).cut (w2.tape w2.drawn (Question.appendCap 1 0 41)), Builtin.zeroCells #[Value.pointer none] ((Question.appendCap 1 0 41).cut (w2.tape w2.drawn (Question.appendCap 1 0 41)) - 1), ?_, ?_, by omega, ?_, ?_⟩
  · exact row_alloc (row_alloc (row_other P2.out (Ne.symm hne)))
  · exact row_alloc (row_alloc (heap_setCell_same _ H 20 _ _ _ HB.out))
  · have := heap_new ((w2.setCell ⟨H, 20, none⟩ (Value.slice (some ⟨w2.heap.size + 1, 0, none⟩) 1 ((Question.appendCap 1 0 41).cut (w2.tape w2.drawn (Question.appendCap 1 0 41))))).alloc (Obj.cells #[Value.pointer (some ⟨P, 0, none⟩)] 41)) (Obj.cells (#[Value.pointer (some ⟨P, 0, none⟩)] ++ Builtin.zeroCells #[Value.pointer none] ((Question.appendCap 1 0 41).cut (w2.tape w2.drawn (Question.appendCap 1 0 41)) - 1)) 41)
    have e : ((w2.setCell ⟨H, 20, none⟩ (Value.slice (some ⟨w2.heap.size + 1, 0, none⟩) 1 ((Question.appendCap 1 0 41).cut (w2.tape w2.drawn (Question.appendCap 1 0 41))))).alloc (Obj.cells #[Value.pointer (some ⟨P, 0, none⟩)] 41)).heap.size = w2.heap.size + 1 := by rw [size_new]; simp [World.setCell]
    rw [e] at this
    exact this
  · have k1 : Fr (fun k => k = P ∨ k = H) w w2 := (((Fr.refl (fun k => k = P ∨ k = H) w).alloc _).trans (FR.out.mono (fun _ _ h => .inl h))).trans (FF.out.mono (fun _ _ h => .inl h))
    exact (((k1.setCell (ad := ⟨H, 20, none⟩) (fun _ => .inr rfl) _).alloc _).alloc _).drew
end Go.Proofs.Ybulkanyc
