import Derived.Test.YbulkanycFollow7
import Derived.BigQuiet
import Derived.BigRegion
import Derived.Deep.RegionHeld3
import Derived.Deep.RegionWith
namespace Go.Proofs.Ybulkanyc
open Go.RowKit
set_option linter.unusedVariables false

set_option maxRecDepth 20000 in
set_option maxHeartbeats 1000000 in
theorem follow_p (n a4 : Int) (k len : Nat) (told : Bool) (s1 s2 : Option Addr) (l1 c1 c2 : Nat) (offs : Nat → Int) (w : World) (hl : len ≤ 1024) (hk : n % 8 = (k : Int)) (hk8 : k < 8) (hn0 : 0 ≤ n) (hn : n ≤ 255)
  (hoff : ∀ i, i < l1 → ∃ x, s1 = some x ∧ w.cell? (x.add i) = some (.int .i16 (offs i))) (hoff0 : ∀ i, ¬ i < l1 → offs i = 0) (hob : ∀ i, -32768 ≤ offs i ∧ offs i ≤ 32767) (ha1 : -32768 ≤ a4) (ha2 : a4 ≤ 32767) (scr : Nat → Nat) (hscr : ∀ j, j < len → ∃ x, s2 = some x ∧ w.cell? (x.add j) = some (.int .u8 (scr j : Int))) (hscrb : ∀ j, scr j ≤ 255)
  (hm : ∀ wx, (Instr.makeSlice 25 (.int .i64 ((k : Int) + 1)) (.int .i64 ((k : Int) + 1))).run Yba.prog wx = .ok (.slice (some ⟨wx.heap.size, 0, none⟩) (k + 1) (k + 1)) (wx.alloc (.cells (Array.replicate (k + 1) (.pointer none)) 24))) :
    Calls Yba.prog 4 #[.int .u8 n, .slice s1 l1 c1, .slice s2 len c2, .bool told, .int .i16 a4] w fun e w' => e = .returned (.bool true) ∧ Below w.heap.size w w' := by
  go_enter Yba.func4, Yba.ntmps4
  go_wp2_with fail
  have HOFF := hid hoff
  have HOB := hid hob
  have HSCR := hid hscr
  have HSCB := hid hscrb
  have HA1 := hid ha1
  have HA2 := hid ha2
  have HOFF0 := hid hoff0
  clear hoff hoff0 hm hob hscr hscrb ha1 ha2
  go_loopw [14] (fun v wr => ∃ i : Nat, i ≤ k + 1 ∧ v = .int .i64 i ∧ Hid (Laid1 (k + 1) offs w wr i)) (fun i _ => k + 1 - (intOf i).toNat)
  case atStart => exact ⟨0, by omega, rfl, hid (Laid1.start (k + 1) offs w _ _)⟩
  case round =>
    obtain ⟨i, hi, rfl, hL⟩ := hrel
    by_cases h1 : i < k + 1
    · have hz : wr.frozen? ⟨w.heap.size + 1, i, none⟩ = false := frozen_of_row _ _ _ _ _ hL.out.files
      have hy : wr.cell? ⟨w.heap.size + 1, i, none⟩ = some (.pointer none) := by rw [cell_of_row _ _ _ _ _ _ hL.out.files, filesRow_get _ _ _ _ h1]; simp
      have hlt : w.heap.size + 1 < wr.heap.size := lt_of_block hL.out.files
      by_cases h2 : i < l1
      · obtain ⟨x, rfl, hx⟩ := HOFF.out i h2
        have hx2 : wr.cell? (x.add i) = some (.int .i16 (offs i)) := (hL.out.below.cell (lt_of_cell hx)).trans hx
        go_wp2_with fail
        go_roundw
        case rel => exact ⟨i + 1, by omega, by go_num, hid (hL.out.step h1)⟩
        case measure => simp [intOf]; omega
      · have h3 := HOFF0.out i h2
        go_wp2_with fail
        go_roundw
        case rel => exact ⟨i + 1, by omega, by go_num, hid (by have := hL.out.step h1; rw [h3] at this; exact this)⟩
        case measure => simp [intOf]; omega
    · obtain rfl : i = k + 1 := by omega
      have hwr := hid (lt_of_block hL.out.files)
      have hms : ∀ wx : World, (Instr.makeSlice 79 (.int .i64 ((k : Int) + 1)) (.int .i64 ((k : Int) + 1))).run Yba.prog wx = .ok (.slice (some ⟨wx.heap.size, 0, none⟩) (k + 1) (k + 1)) (wx.alloc (.cells (Array.replicate (k + 1) (.bool false)) 4)) := make_seen k hk8
      have hstf : ∀ (a : Addr) (n : Nat) (m : Mode) (W : World), (store a (.float .f64 n) m).run Yba.prog W = stored Yba.prog W a (.float .f64 n) m := fun a n m W => run_store Yba.prog W a _ m rfl
      go_wp2_with fail
      refine (new_source _ wr).mono ?_
      rintro e w1 ⟨rfl, rfl⟩
      unfold src0
      go_wp2_with fail
      generalize hN : wr.heap.size = N
      have HN := hid hN
      clear hN
      go_loopw [19, 21, 22, 90] (fun v19 v21 v22 v90 wq => ∃ (j : Nat) (seen : Nat → Bool) (m c t : Nat) (fur : Int) (grew any : Bool), j ≤ len ∧ v90 = .int .i64 (j : Int) ∧ v19 = .float .f64 (fl fur) ∧ v21 = .bool grew ∧ v22 = .bool any ∧
          Hid (c ≤ j) ∧ Hid (t ≤ 1024) ∧ Hid (Kept2 (k + 1) offs told w N wq seen m c t fur grew any)) (fun _ _ _ v90 _ => len - (intOf v90).toNat)
      case atStart =>
        have hN := HN.out
        subst hN
        exact ⟨0, fun _ => false, 0, 0, 0, a4, false, false, Nat.zero_le _, rfl, rfl, rfl, rfl, hid (Nat.le_refl _), hid (Nat.zero_le _), hid (Kept2.start told a4 _ hL.out HA1.out HA2.out)⟩
      case round =>
        clear hms HN hwr hL
        obtain ⟨j, seen, m, c, t, fur, grew, any, hj, rfl, rfl, rfl, rfl, hc, ht, hK⟩ := hrel
        by_cases h2 : j < len
        · obtain ⟨x, rfl, hx⟩ := HSCR.out j h2
          have hx2 : wr.cell? (x.add j) = some (.int .u8 (scr j : Int)) := (hK.out.below.cell (lt_of_cell hx)).trans hx
          obtain ⟨i, hi⟩ : ∃ i : Nat, i = scr j % (k + 1) := ⟨_, rfl⟩
          have hik : i < k + 1 := by rw [hi]; exact Nat.mod_lt _ (by omega)
          have hrem : (scr j : Int) % ((k : Int) + 1) = (i : Int) := by rw [hi]; simp
          have hsb := HSCB.out j
          obtain ⟨d, hd⟩ : ∃ d : Nat, d = j + 1 := ⟨_, rfl⟩
          have hjd : (j : Int) + 1 = (d : Int) := by omega
          have hd1 := hid (show 1 ≤ d by omega)
          have hd2 := hid (show d ≤ 1024 by omega)
          have Hd := hid hd
          have Hi := hid hi
          clear hd hi hx
          go_wp2_with fail
          refine (time_add_any d wr hd1.out hd2.out).mono ?_
          rintro e w1 ⟨rfl, fr1⟩
          have K1 := hid (hK.out.fr fr1)
          have s1 := hid (show wr.heap.size ≤ w1.heap.size from fr1.size)
          clear fr1 hx2
          have f1 : w1.cell? ⟨w.heap.size + 1, i, none⟩ = some (.pointer (some ⟨w.heap.size + 2 + i, 0, none⟩)) := K1.out.fileCell i hik
          have l1 : w.heap.size + 1 < w1.heap.size := lt_of_block K1.out.files
          have l4 : N + 1 + 1 + 1 + 1 < w1.heap.size := lt_of_block K1.out.seenB
          have K2 := hid (K1.out.fr ((Fr.refl _ w1).alloc (.cells #[.int .u64 (d : Int), .int .i64 0, .pointer none] 37)).drew)
          have hob := HOB.out i
          have ik1 : (i : Int) < (k : Int) + 1 := by omega
          have ik0 : (0 : Int) ≤ (i : Int) := by omega
          have G := hid (K1.out.cells1 i d hik)
          have EN := hid K1.out.eqN
          have LL := hid (lt_of_block K1.out.last)
          cases hs : seen i
          · have HC := hid (K2.out.holdsNew i d (N + 1 + 1 + 1) hik (by omega) hob.1 hob.2 (by have := hc.out; omega) hs)
            go_wp2_with fail
            have G2 : Hid (∀ W, NewPost offs told w N (w1.alloc (.cells #[.int .u64 (d : Int), .int .i64 0, .pointer none] 37)).drew m c fur i d W → SCells w w1 i d W) := hid (fun W hW => by
              obtain ⟨_, _, _, _, _, _, _, hf⟩ := hW
              exact G.out.fr (a := (w1.alloc (.cells #[.int .u64 (d : Int), .int .i64 0, .pointer none] 37)).drew) hf (by have := EN.out; omega) (by have := EN.out; have := LL.out; omega))
            unfold SCells at G G2
            go_region_held3 (fun W => W.cell? ⟨w.heap.size + 1, i, none⟩ = some (.pointer (some ⟨w.heap.size + 2 + i, 0, none⟩)) ∧ W.cell? ⟨w1.heap.size, 0, none⟩ = some (.int .u64 (d : Int)) ∧ W.cell? ⟨w1.heap.size, 1, none⟩ = some (.int .i64 0) ∧ W.cell? ⟨w1.heap.size, 2, none⟩ = some (.pointer none)) (first | exact G.out | exact G2.out _ (by assumption)) ((go_at_call 8; refine HC.out.mono ?_; rintro e w2 ⟨rfl, hw2⟩))
            obtain ⟨gb, cap, xs, hP, hH, hgb, hg, hf⟩ := hw2
            have eN := K2.out.eqN
            have up : ∀ {q : Nat} {o : Obj}, ((w1.alloc (.cells #[.int .u64 (d : Int), .int .i64 0, .pointer none] 37)).drew).heap[q]? = some o → q ≠ N + 1 → q ≠ w.heap.size + 2 + i → w2.heap[q]? = some o := fun {q o} hq h1 h2 => (hf.block q (lt_of_block hq) (fun e => e.elim h1 h2)).trans hq
            have l5 := lt_of_block K1.out.last
            have hsn := up K2.out.seenB (by omega) (by omega)
            have hel := up K2.out.last (by omega) (by omega)
            have hfi := up K2.out.files (by omega) (by omega)
            have hnw := up (q := w1.heap.size) (heap_new w1 _) (by omega) (by omega)
            rw [hld_set] at hH
            have v1 : w2.cell? ⟨N + 1 + 1 + 1 + 1, i, none⟩ = some (.bool false) := by rw [← hs]; exact (cell_of_row _ _ _ _ _ _ hsn).trans (seenRow_get _ _ _ hik)
            have v2 : w2.frozen? ⟨N + 1 + 1 + 1 + 1, i, none⟩ = false := frozen_of_row _ _ _ _ _ hsn
            have v3 : w2.cell? ⟨w1.heap.size, 0, none⟩ = some (.int .u64 (d : Int)) := cell_of_row _ _ _ _ _ _ hnw
            have v4 : w2.cell? ⟨w1.heap.size, 1, none⟩ = some (.int .i64 0) := cell_of_row _ _ _ _ _ _ hnw
            have v5 : w2.cell? ⟨w1.heap.size, 2, none⟩ = some (.pointer none) := cell_of_row _ _ _ _ _ _ hnw
            have v6 : w2.cell? ⟨N + 1 + 1 + 1 + 1 + 1, 0, none⟩ = some (.int .u64 (t : Int)) := cell_of_row _ _ _ _ _ _ hel
            have v7 : w2.cell? ⟨N + 1 + 1 + 1 + 1 + 1, 1, none⟩ = some (.int .i64 0) := cell_of_row _ _ _ _ _ _ hel
            have v8 : w2.cell? ⟨N + 1 + 1 + 1 + 1 + 1, 2, none⟩ = some (.pointer none) := cell_of_row _ _ _ _ _ _ hel
            have z6 : w2.frozen? ⟨N + 1 + 1 + 1 + 1 + 1, 0, none⟩ = false := frozen_of_row _ _ _ _ _ hel
            have z7 : w2.frozen? ⟨N + 1 + 1 + 1 + 1 + 1, 1, none⟩ = false := frozen_of_row _ _ _ _ _ hel
            have z8 : w2.frozen? ⟨N + 1 + 1 + 1 + 1 + 1, 2, none⟩ = false := frozen_of_row _ _ _ _ _ hel
            have v9 : w2.cell? ⟨w.heap.size + 1, i, none⟩ = some (.pointer (some ⟨w.heap.size + 2 + i, 0, none⟩)) := by rw [cell_of_row _ _ _ _ _ _ hfi, filesRow_get _ _ _ _ hik, if_pos hik]
            have v10 : w2.cell? ⟨w.heap.size + 2 + i, 9, none⟩ = some (.float .f64 (fl (offs i))) := cell_of_row _ _ _ _ _ _ hH
            have y1 : w.heap.size + 1 < w2.heap.size := lt_of_block hfi
            have y2 : w.heap.size + 2 + i < w2.heap.size := lt_of_block hH
            have y3 : N + 1 + 1 + 1 + 1 < w2.heap.size := lt_of_block hsn
            have y4 : N + 1 + 1 + 1 + 1 + 1 < w2.heap.size := lt_of_block hel
            have y5 : w1.heap.size < w2.heap.size := lt_of_block hnw
            have HKEEP := hid (K2.out.step i d gb cap xs w2 hik (by omega) hob.1 hob.2 hP hH hgb hg hf)
            clear hP hH hgb hg hf up hsn hel hfi hnw eN HC f1 hs l1 l4
            have n1 : ¬ N + 1 + 1 + 1 + 1 + 1 = N + 1 + 1 + 1 + 1 := by omega
            have n2 : ¬ N + 1 + 1 + 1 + 1 = N + 1 + 1 + 1 + 1 + 1 := by omega
            have n3 : ¬ w1.heap.size = N + 1 + 1 + 1 + 1 := by omega
            have n4 : ¬ w1.heap.size = N + 1 + 1 + 1 + 1 + 1 := by omega
            have n5 : ¬ w.heap.size + 1 = N + 1 + 1 + 1 + 1 := by have := EN.out; omega
            have n6 : ¬ w.heap.size + 1 = N + 1 + 1 + 1 + 1 + 1 := by have := EN.out; omega
            have n7 : ¬ w.heap.size + 2 + i = N + 1 + 1 + 1 + 1 := by have := EN.out; omega
            have n8 : ¬ w.heap.size + 2 + i = N + 1 + 1 + 1 + 1 + 1 := by have := EN.out; omega
            clear l5
            have hor := hid (fl_order (offs i) fur (by omega) (by have := K1.out.furlo; have := K1.out.furhi; omega))
            go_wp2_with fail
            rotate_left
            · rename_i hh
              have hfo : ¬ fur < offs i := by
                intro hlt
                rw [hor.out, if_neg (by omega), if_neg (by omega)] at hh
                revert hh; decide
              rw [if_neg hfo] at HKEEP
              go_roundw
              case rel => exact ⟨d, upd seen i, m ||| 2 ^ (i + 1), c + 1, d, fur, told, true, by have := Hd.out; omega, rfl, rfl, rfl, rfl, hid (by have := Hd.out; have := hc.out; omega), hd2, HKEEP⟩
              case measure => have := Hd.out; simp [intOf]; omega
            · rename_i hh
              have hfo : fur < offs i := by
                apply Classical.byContradiction
                intro hlt
                rw [hor.out] at hh
                by_cases h5 : offs i < fur
                · rw [if_pos h5] at hh; revert hh; decide
                · rw [if_neg h5, if_pos (by omega)] at hh; revert hh; decide
              rw [if_pos hfo] at HKEEP
              go_roundw
              case rel => exact ⟨d, upd seen i, m ||| 2 ^ (i + 1), c + 1, d, offs i, told, true, by have := Hd.out; omega, rfl, rfl, rfl, rfl, hid (by have := Hd.out; have := hc.out; omega), hd2, HKEEP⟩
              case measure => have := Hd.out; simp [intOf]; omega
          · have HC := hid (K2.out.holdsSeen i d (N + 1 + 1 + 1) hik (by omega) hs)
            have G2 : Hid (∀ W, Fr (fun _ => False) (w1.alloc (.cells #[.int .u64 (d : Int), .int .i64 0, .pointer none] 37)).drew W → SCells w w1 i d W) := hid (fun W hf =>
              G.out.fr (a := (w1.alloc (.cells #[.int .u64 (d : Int), .int .i64 0, .pointer none] 37)).drew) hf (fun f => f) (fun f => f))
            unfold SCells at G G2
            go_wp2_with fail
            go_region_held3 (fun W => W.cell? ⟨w.heap.size + 1, i, none⟩ = some (.pointer (some ⟨w.heap.size + 2 + i, 0, none⟩)) ∧ W.cell? ⟨w1.heap.size, 0, none⟩ = some (.int .u64 (d : Int)) ∧ W.cell? ⟨w1.heap.size, 1, none⟩ = some (.int .i64 0) ∧ W.cell? ⟨w1.heap.size, 2, none⟩ = some (.pointer none)) (first | exact G.out | exact G2.out _ (by assumption)) ((go_at_call 8; refine HC.out.mono ?_; rintro e w2 ⟨rfl, hw2⟩))
            have K3 := hid (K2.out.fr hw2)
            have v1 : w2.cell? ⟨N + 1 + 1 + 1 + 1, i, none⟩ = some (.bool true) := by rw [← hs]; exact K3.out.seenCell i hik
            have y3 : N + 1 + 1 + 1 + 1 < w2.heap.size := lt_of_block K3.out.seenB
            clear hw2 HC f1 hs l1 l4 G G2
            go_wp2_with fail
            go_roundw
            case rel => exact ⟨d, seen, m, c, t, fur, grew, any, by have := Hd.out; omega, rfl, rfl, rfl, rfl, hid (by have := Hd.out; have := hc.out; omega), ht, K3⟩
            case measure => have := Hd.out; simp [intOf]; omega
        · go_wp2_with fail
          go_loopw [27] (fun v27 wq => ∃ (i : Nat), i ≤ k + 1 ∧ v27 = .int .i64 (i : Int) ∧ wq = wr) (fun v27 _ => k + 1 - (intOf v27).toNat)
          case atStart => exact ⟨0, Nat.zero_le _, rfl, rfl⟩
          case round =>
            obtain ⟨i, hi, rfl, hw⟩ := hrel
            subst hw
            by_cases h3 : i < k + 1
            · have v1 : wr.cell? ⟨N + 1 + 1 + 1 + 1, i, none⟩ = some (.bool (seen i)) := hK.out.seenCell i h3
              have v2 : wr.cell? ⟨w.heap.size + 1, i, none⟩ = some (.pointer (some ⟨w.heap.size + 2 + i, 0, none⟩)) := hK.out.fileCell i h3
              have ik1 : (i : Int) < (k : Int) + 1 := by omega
              have ik0 : (0 : Int) ≤ (i : Int) := by omega
              have hnq := neq_same wr ⟨N + 1, 0, none⟩
              cases hs : seen i
              · rw [hs] at v1
                obtain ⟨v3, v4⟩ := hK.out.heldNone i h3 hs
                go_wp2_with fail
                go_roundw
                case rel => exact ⟨i + 1, by omega, by go_num, trivial⟩
                case measure => simp [intOf]; omega
              · rw [hs] at v1
                obtain ⟨gb, cap, v3, v5, v4⟩ := hK.out.heldOne i h3 hs
                go_wp2_with fail
                go_roundw
                case rel => exact ⟨i + 1, by omega, by go_num, trivial⟩
                case measure => simp [intOf]; omega
            · obtain rfl : i = k + 1 := by omega
              have hsrc := hK.out.source
              have hlst := hK.out.last
              have c30 : wr.cell? ⟨N + 1, 30, none⟩ = some (.float .f64 (fl fur)) := cell_of_row _ _ _ _ _ _ hsrc
              have c6 : wr.cell? ⟨N + 1, 6, none⟩ = some (.bool grew) := cell_of_row _ _ _ _ _ _ hsrc
              have c27 : wr.cell? ⟨N + 1, 27, none⟩ = some (.int .u64 (t : Int)) := cell_of_row _ _ _ _ _ _ hsrc
              have c28 : wr.cell? ⟨N + 1, 28, none⟩ = some (.int .i64 0) := cell_of_row _ _ _ _ _ _ hsrc
              have c29 : wr.cell? ⟨N + 1, 29, none⟩ = some (.pointer none) := cell_of_row _ _ _ _ _ _ hsrc
              have c18 : wr.cell? ⟨N + 1, 18, none⟩ = some (.int .i64 (c : Int)) := cell_of_row _ _ _ _ _ _ hsrc
              have e0 : wr.cell? ⟨N + 1 + 1 + 1 + 1 + 1, 0, none⟩ = some (.int .u64 (t : Int)) := cell_of_row _ _ _ _ _ _ hlst
              have e1 : wr.cell? ⟨N + 1 + 1 + 1 + 1 + 1, 1, none⟩ = some (.int .i64 0) := cell_of_row _ _ _ _ _ _ hlst
              have e2 : wr.cell? ⟨N + 1 + 1 + 1 + 1 + 1, 2, none⟩ = some (.pointer none) := cell_of_row _ _ _ _ _ _ hlst
              have hle : (FloatKind.f64.format.order (fl fur) (fl fur) == some Ordering.eq) = true := by
                rw [fl_order fur fur (by have := hK.out.furlo; have := hK.out.furhi; omega) (by have := hK.out.furlo; have := hK.out.furhi; omega), if_neg (by omega), if_pos rfl]
                rfl
              have hca : decide ((0 : Int) < (c : Int)) = any := by
                have := hK.out.cnt
                cases any
                · exact decide_eq_false (fun h => by have := this.1 (by omega); cases this)
                · exact decide_eq_true (by have := this.2 rfl; omega)
              have HT := hid (time_equal_any t wr.drew ht.out)
              have l1 : N + 1 < wr.heap.size := lt_of_block hsrc
              have l5 : N + 1 + 1 + 1 + 1 + 1 < wr.heap.size := lt_of_block hlst
              have HK := hid hK.out.below
              clear hsrc hlst
              go_wp2_with fail
              have G := hid (And.intro c30 (And.intro c6 (And.intro c27 (And.intro c28 (And.intro c29 (And.intro c18 (And.intro e0 (And.intro e1 e2))))))))
              have G2 : Hid (∀ W, Fr (fun _ => False) wr.drew W → W.cell? ⟨N + 1, 30, none⟩ = some (.float .f64 (fl fur)) ∧ W.cell? ⟨N + 1, 6, none⟩ = some (.bool grew) ∧ W.cell? ⟨N + 1, 27, none⟩ = some (.int .u64 (t : Int)) ∧ W.cell? ⟨N + 1, 28, none⟩ = some (.int .i64 0) ∧ W.cell? ⟨N + 1, 29, none⟩ = some (.pointer none) ∧ W.cell? ⟨N + 1, 18, none⟩ = some (.int .i64 (c : Int)) ∧ W.cell? ⟨N + 1 + 1 + 1 + 1 + 1, 0, none⟩ = some (.int .u64 (t : Int)) ∧ W.cell? ⟨N + 1 + 1 + 1 + 1 + 1, 1, none⟩ = some (.int .i64 0) ∧ W.cell? ⟨N + 1 + 1 + 1 + 1 + 1, 2, none⟩ = some (.pointer none)) := hid (fun W hf => by
                have q1 : ∀ o, W.cell? ⟨N + 1, o, none⟩ = wr.cell? ⟨N + 1, o, none⟩ := fun o => by simp only [World.cell?]; rw [hf.block (N + 1) l1 (fun f => f)]; rfl
                have q2 : ∀ o, W.cell? ⟨N + 1 + 1 + 1 + 1 + 1, o, none⟩ = wr.cell? ⟨N + 1 + 1 + 1 + 1 + 1, o, none⟩ := fun o => by simp only [World.cell?]; rw [hf.block (N + 1 + 1 + 1 + 1 + 1) l5 (fun f => f)]; rfl
                simp only [q1, q2]
                exact G.out)
              go_region_held3 (fun W => W.cell? ⟨N + 1, 30, none⟩ = some (.float .f64 (fl fur)) ∧ W.cell? ⟨N + 1, 6, none⟩ = some (.bool grew) ∧ W.cell? ⟨N + 1, 27, none⟩ = some (.int .u64 (t : Int)) ∧ W.cell? ⟨N + 1, 28, none⟩ = some (.int .i64 0) ∧ W.cell? ⟨N + 1, 29, none⟩ = some (.pointer none) ∧ W.cell? ⟨N + 1, 18, none⟩ = some (.int .i64 (c : Int)) ∧ W.cell? ⟨N + 1 + 1 + 1 + 1 + 1, 0, none⟩ = some (.int .u64 (t : Int)) ∧ W.cell? ⟨N + 1 + 1 + 1 + 1 + 1, 1, none⟩ = some (.int .i64 0) ∧ W.cell? ⟨N + 1 + 1 + 1 + 1 + 1, 2, none⟩ = some (.pointer none)) (first | exact G.out | exact G2.out _ (by assumption)) ((go_at_call 9; refine HT.out.mono ?_; rintro e w2 ⟨rfl, hw2⟩))
              have hca2 : (decide (0 < c) == any) = true := by
                rw [← hca]
                simp
              rw [hca2]
              have HW := hid (show Below w.heap.size w w2 from HK.out.trans ((((Fr.refl (fun _ => False) wr).drew).trans hw2).below (by have := hK.out.eqN; omega) (fun _ f => f.elim)))
              clear hw2
              go_wp2_with fail
              go_ret
              exact ⟨rfl, HW.out⟩
end Go.Proofs.Ybulkanyc
