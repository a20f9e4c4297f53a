/-
  LawS1978BSchedule: the law's walk, a lane of span 0 to begin with.
-/
import Derived.Test.YbulkanycSched18
import Derived.Deep.RegionHeld3
import Derived.BigQuiet
namespace Go.Proofs.Ybulkanyc
open Go.RowKit
set_option linter.unusedVariables false

set_option maxRecDepth 20000 in
set_option maxHeartbeats 4000000 in
theorem sched_t (since : Int) (s : Option Addr) (n c : Nat) (bs : Nat → Int) (A : Nat → Int) (w : World) (hn : n ≤ 512) (hs : ∀ j, j < n → ∃ x, s = some x ∧ w.cell? (x.add j) = some (.int .i8 (bs j))) (hb : ∀ j, -128 ≤ bs j ∧ bs j ≤ 127)
    (hA : ∀ j, IntKind.i64.wrap (since + (bs j).tmod 7) = A j) (hA2 : ∀ j, wrap64 (since + (bs j).tmod 7) = A j) :
    Calls Yba.prog 5 #[.int .i64 since, .bool true, .slice s n c] w fun e w' => e = .returned (.bool true) ∧ Below w.heap.size w w' := by
  have hl' : (n : Int) ≤ 512 := by omega
  have hm := make_acts n hn
  have HS := hid hs
  have HB := hid hb
  have HA := hid hA
  have HA2 := hid hA2
  clear hs hb hA hA2
  obtain ⟨sp, hsp⟩ : ∃ sp : Nat → Int, ∀ j, sp j = (bs j).tmod 7 := ⟨fun j => (bs j).tmod 7, fun _ => rfl⟩
  have HSP := hid hsp
  clear hsp
  go_enter Yba.func5, Yba.ntmps5
  go_wp2_with fail
  have LO : ((w.alloc (.cells #[.int .u64 0, .int .i64 0, .pointer none, .int .i64 since, .int .u64 0, .slice none 0 0, .int .u64 0, .int .i64 0, .pointer none, .slice (some ⟨w.heap.size + 1, 0, none⟩) 1 1, .slice none 0 0, .int .i64 0, .int .i64 0, .int .i64 0, .int .i64 0, .int .i64 0, .int .i64 0, .int .i64 0, .int .i64 0, .int .i64 0, .slice none 0 0, .slice none 0 0, .map none, .map none, .int .i64 0, .nilIface] 96)).alloc (.cells #[.int .i64 0, .slice none 0 0, .int .i64 0, .int .i64 0] 100)).ownsRow w.heap.size 100 4 (.slice (some ⟨w.heap.size + 1, 0, none⟩) 1 1) 1 (lanesRow [(0, .slice none 0 0, [])]) := by
    have := World.ownsRow_lit (base := w.heap.size) (e := 100) (size := 4) (w.alloc (.cells #[.int .u64 0, .int .i64 0, .pointer none, .int .i64 since, .int .u64 0, .slice none 0 0, .int .u64 0, .int .i64 0, .pointer none, .slice (some ⟨w.heap.size + 1, 0, none⟩) 1 1, .slice none 0 0, .int .i64 0, .int .i64 0, .int .i64 0, .int .i64 0, .int .i64 0, .int .i64 0, .int .i64 0, .int .i64 0, .int .i64 0, .slice none 0 0, .slice none 0 0, .map none, .map none, .int .i64 0, .nilIface] 96)) #[.int .i64 0, .slice none 0 0, .int .i64 0, .int .i64 0] 1 (by rw [size_new]; omega) (by simp [maxLen]) rfl
    rw [size_new] at this
    exact this
  have L0 : Hid (L1 A sp w.heap.size since (w.heap.size + 1 + 1 + 1) (w.heap.size + 1 + 1) n w ((((w.alloc (.cells #[.int .u64 0, .int .i64 0, .pointer none, .int .i64 since, .int .u64 0, .slice none 0 0, .int .u64 0, .int .i64 0, .pointer none, .slice (some ⟨w.heap.size + 1, 0, none⟩) 1 1, .slice none 0 0, .int .i64 0, .int .i64 0, .int .i64 0, .int .i64 0, .int .i64 0, .int .i64 0, .int .i64 0, .int .i64 0, .int .i64 0, .slice none 0 0, .slice none 0 0, .map none, .map none, .int .i64 0, .nilIface] 96)).alloc (.cells #[.int .i64 0, .slice none 0 0, .int .i64 0, .int .i64 0] 100)).alloc (.cells #[.int .i64 0] 3)).alloc (.cells (Array.replicate n (.pointer none)) 102)) 0) := hid (L1.start (Ls := [(0, .slice none 0 0, [])]) (row_alloc (row_alloc (row_alloc (heap_new w _)))) (runOk0 since _) ((LO.alloc _).alloc _) (by simp) (by simp)
    (by
      have := heap_new (((w.alloc (.cells #[.int .u64 0, .int .i64 0, .pointer none, .int .i64 since, .int .u64 0, .slice none 0 0, .int .u64 0, .int .i64 0, .pointer none, .slice (some ⟨w.heap.size + 1, 0, none⟩) 1 1, .slice none 0 0, .int .i64 0, .int .i64 0, .int .i64 0, .int .i64 0, .int .i64 0, .int .i64 0, .int .i64 0, .int .i64 0, .int .i64 0, .slice none 0 0, .slice none 0 0, .map none, .map none, .int .i64 0, .nilIface] 96)).alloc (.cells #[.int .i64 0, .slice none 0 0, .int .i64 0, .int .i64 0] 100)).alloc (.cells #[.int .i64 0] 3)) (.cells (Array.replicate n (.pointer none)) 102)
      rw [size_new, size_new, size_new] at this
      exact this)
    (by
      have := heap_new ((w.alloc (.cells #[.int .u64 0, .int .i64 0, .pointer none, .int .i64 since, .int .u64 0, .slice none 0 0, .int .u64 0, .int .i64 0, .pointer none, .slice (some ⟨w.heap.size + 1, 0, none⟩) 1 1, .slice none 0 0, .int .i64 0, .int .i64 0, .int .i64 0, .int .i64 0, .int .i64 0, .int .i64 0, .int .i64 0, .int .i64 0, .int .i64 0, .slice none 0 0, .slice none 0 0, .map none, .map none, .int .i64 0, .nilIface] 96)).alloc (.cells #[.int .i64 0, .slice none 0 0, .int .i64 0, .int .i64 0] 100)) (.cells #[.int .i64 0] 3)
      rw [size_new, size_new] at this
      exact row_alloc this)
    (((((Fr.refl (fun j => w.heap.size ≤ j) w).alloc _).alloc _).alloc _).alloc _))
  have hRA : w.heap.size ≤ w.heap.size + 1 + 1 + 1 := by omega
  clear hm LO
  generalize (((w.alloc (.cells #[.int .u64 0, .int .i64 0, .pointer none, .int .i64 since, .int .u64 0, .slice none 0 0, .int .u64 0, .int .i64 0, .pointer none, .slice (some ⟨w.heap.size + 1, 0, none⟩) 1 1, .slice none 0 0, .int .i64 0, .int .i64 0, .int .i64 0, .int .i64 0, .int .i64 0, .int .i64 0, .int .i64 0, .int .i64 0, .int .i64 0, .slice none 0 0, .slice none 0 0, .map none, .map none, .int .i64 0, .nilIface] 96)).alloc (.cells #[.int .i64 0, .slice none 0 0, .int .i64 0, .int .i64 0] 100)).alloc (.cells #[.int .i64 0] 3)).alloc (.cells (Array.replicate n (.pointer none)) 102) = W0 at *
  generalize w.heap.size + 1 + 1 + 1 = Ab at *
  generalize w.heap.size + 1 + 1 = F at *
  generalize hR : w.heap.size = R at *
  have HR := hid hR
  clear hR
  have HRA := hid hRA
  clear hRA
  go_loopw [11] (fun v11 wq => ∃ i : Nat, i ≤ n ∧ v11 = .int .i64 (i : Int) ∧ Hid (L1 A sp R since Ab F n w wq i)) (fun v11 _ => n - (intOf v11).toNat)
  case atStart => exact ⟨0, Nat.zero_le _, rfl, L0⟩
  case round =>
    clear L0
    obtain ⟨i, hi, rfl, hL⟩ := hrel
    by_cases hin : i < n
    · obtain ⟨x, rfl, hx⟩ := HS.out i hin
      obtain ⟨acs, hac, hai⟩ := hL.out.acts
      have d0 : wr.cell? ⟨Ab, i, none⟩ = some (.pointer none) := (cell_of_row _ _ _ _ _ _ hac).trans (hai hin)
      have f0 : wr.frozen? ⟨Ab, i, none⟩ = false := frozen_of_row _ _ _ _ _ hac
      have lA : Ab < wr.heap.size := lt_of_block hac
      have hxl : x.block < R := by
        have := World.block_lt_of_cell? w _ hx
        rw [add_blk, HR.out] at this
        exact this
      have lx : x.block < wr.heap.size := by
        have h1 := hL.out.fr.size
        have h2 := HR.out
        omega
      have hx2 : wr.cell? (x.add i) = some (.int .i8 (bs i)) := cell_frS hx hL.out.fr (by rw [add_blk]; omega)
      have hbi := HB.out i
      have hspi := HSP.out i
      have hs1 : -6 ≤ sp i := by rw [hspi]; exact (tmod7 _).1
      have hs2 : sp i ≤ 6 := by rw [hspi]; exact (tmod7 _).2
      have nx : ¬ (x.add i).block = Ab := by rw [add_blk]; have := HRA.out; omega
      have hx3 : ((wr.setCell ⟨Ab, i, none⟩ (.pointer (some ⟨wr.heap.size, 0, none⟩))).alloc (.cells #[.pointer (some ⟨F, 0, none⟩)] 105)).cell? (x.add i) = some (.int .i8 (bs i)) := cell_frS hx2 (((Fr.refl (fun j => j = Ab) wr).setCell (ad := ⟨Ab, i, none⟩) (fun _ => rfl) _).alloc _) nx
      have HX := hid hxl
      have CA := hid (hL.out.after hin hn HRA.out (.cells #[.pointer (some ⟨F, 0, none⟩)] 105) hs1 hs2 (by rw [hspi]; exact HA.out i) (by rw [hspi]; exact HA2.out i))
      have CS := hid (fun wx => span_any (bs i) wx hbi.1 hbi.2)
      rw [hspi] at CA
      clear hxl hac hai hbi hspi hs1 hs2
      go_wp2_with fail
      refine (CS.out _).mono ?_
      rintro e w1 ⟨rfl, rfl⟩
      go_wp2_with fail
      refine CA.out.mono ?_
      rintro e w2 ⟨rfl, hw2⟩
      have HW2 := hid hw2
      clear hw2 CA CS d0 f0 hx2 nx hx3
      go_wp2_with fail
      go_roundw
      case rel => exact ⟨i + 1, by omega, by go_num, HW2⟩
      case measure => simp [intOf]; omega
    · obtain rfl : n = i := by omega
      obtain ⟨ab, rc, qv, lv, hv, q, Ls, H, st, inv⟩ := hL.out.ex
      have ST := hid st
      have IV := hid inv
      have FR0 := hid hL.out.fr
      have e0 : wr.cell? ⟨F, 0, none⟩ = some (.int .i64 0) := cell_of_row _ _ _ _ _ _ st.fired
      have e6 : wr.cell? ⟨R, 6, none⟩ = some (.int .u64 (n : Int)) := (cell_of_row _ _ _ _ _ _ st.run).trans st.ok.c6
      obtain ⟨la, lc, rfl⟩ := own_shape st.lown
      have e9 : wr.cell? ⟨R, 9, none⟩ = some (.slice la Ls.length lc) := (cell_of_row _ _ _ _ _ _ st.run).trans st.ok.c9
      have few : Ls.length ≤ 8 := inv.few
      have few' : ¬ (8 : Int) < (Ls.length : Int) := by omega
      have lF : F < wr.heap.size := lt_of_block st.fired
      have lR : R < wr.heap.size := lt_of_block st.run
      have hmb := make_bools n hn
      clear st inv hL
      go_wp2_with fail
      have CK0 : Hid (Chk A ab R since Ab F n (actRow n ab n) rc qv (.slice la Ls.length lc) hv q Ls H wr.heap.size w (wr.alloc (.cells (Array.replicate n (.bool false)) 4)) []) := hid ⟨ST.out.fr ((Fr.refl (fun _ => False) wr).alloc _), by
        have e : seenRow n (fun k => decide (k ∈ ([] : List Nat))) = Array.replicate n (.bool false) := by
          rw [← seenRow_false]; congr 1
        rw [e]
        exact heap_new wr _, FR0.out.alloc _⟩
      have hRS : R ≤ wr.heap.size := by omega
      have HRS := hid hRS
      clear hRS hmb e0 e6 e9 lF lR ST FR0
      generalize wr.alloc (.cells (Array.replicate n (.bool false)) 4) = W2 at *
      generalize wr.heap.size = Sb at *
      obtain ⟨qa, qc, hqv⟩ := own_shape CK0.out.st.qown
      subst hqv
      go_loopw [14] (fun v14 wq => ∃ j : Nat, j ≤ q.length ∧ v14 = .int .i64 (j : Int) ∧ Hid (Chk A ab R since Ab F n (actRow n ab n) rc (.slice qa q.length qc) (.slice la Ls.length lc) hv q Ls H Sb w wq (q.take j))) (fun v14 _ => q.length - (intOf v14).toNat)
      case atStart => exact ⟨0, Nat.zero_le _, rfl, CK0⟩
      case round =>
        clear CK0
        obtain ⟨j, hj, rfl, hK⟩ := hrel
        have e5 : wr.cell? ⟨R, 5, none⟩ = some (.slice qa q.length qc) := (cell_of_row _ _ _ _ _ _ hK.out.st.run).trans hK.out.st.ok.c5
        have e3 : wr.cell? ⟨R, 3, none⟩ = some (.int .i64 since) := (cell_of_row _ _ _ _ _ _ hK.out.st.run).trans hK.out.st.ok.c3
        have lR : R < wr.heap.size := lt_of_block hK.out.st.run
        have hqn : q.length ≤ 512 := by
          have hp := IV.out.perm.length_eq
          rw [List.length_append, List.length_range] at hp
          omega
        by_cases hjq : j < q.length
        · obtain ⟨g, hg⟩ : ∃ g, qa = some ⟨g, 0, none⟩ := by
            rcases hK.out.st.qown.2 with ⟨h1, h2⟩ | ⟨g, cap, cur, h1, _⟩
            · omega
            · simp at h1; exact ⟨g, h1.1⟩
          subst hg
          obtain ⟨k, hk⟩ : ∃ k, k = q.getD j 0 := ⟨_, rfl⟩
          have hkq : q[j]? = some k := by rw [hk]; simp [List.getD, hjq]
          have hkn : k < n := by
            have : k ∈ q ++ mem Ls := List.mem_append_left _ (List.mem_of_getElem? hkq)
            exact List.mem_range.1 ((IV.out.perm.mem_iff).1 this)
          have hkv : k ∉ q.take j := by
            have hnd : (q ++ mem Ls).Nodup := (IV.out.perm.nodup_iff).2 List.nodup_range
            exact not_in_take (List.nodup_append.1 hnd).1 hkq
          have htk : q.take (j + 1) = q.take j ++ [k] := take_next hkq
          obtain ⟨x, rfl, hx⟩ := HS.out k hkn
          have s0 : wr.cell? ⟨g, j * 3, none⟩ = some (.int .i64 (A k)) := by rw [hk]; exact hK.out.qCell j 0 hjq (by omega)
          have s1 : wr.cell? ⟨g, j * 3 + 1, none⟩ = some (.int .u64 ((k : Int) + 1)) := by rw [hk]; exact hK.out.qCell j 1 hjq (by omega)
          have s2 : wr.cell? ⟨g, j * 3 + 2, none⟩ = some (.iface 102 (.pointer (some ⟨ab k, 0, none⟩))) := by rw [hk]; exact hK.out.qCell j 2 hjq (by omega)
          have lg : g < wr.heap.size := (hK.out.st.qown.lt g rfl).2
          have ij : (j : Int) < (q.length : Int) := by omega
          have ij0 : (0 : Int) ≤ (j : Int) := by omega
          have HK := hid hk
          have HT := hid htk
          have WB := hid (heap_new wr (.cells #[.int .i64 (A k), .int .u64 ((k : Int) + 1), .iface 102 (.pointer (some ⟨ab k, 0, none⟩))] 112))
          have KD := hid (hK.out.keep (((Fr.refl (fun _ => False) wr).alloc (.cells #[.int .i64 (A k), .int .u64 ((k : Int) + 1), .iface 102 (.pointer (some ⟨ab k, 0, none⟩))] 112)).drew))
          have CO := hid (KD.out.okCall hn HR.out.symm HRS.out k hkn hkv x c (bs k) hx (HB.out k).1 (HB.out k).2 (HA.out k) (HA2.out k))
          clear hkq hkn hkv hk htk hx
          have WR : Hid ((wr.alloc (.cells #[.int .i64 (A k), .int .u64 ((k : Int) + 1), .iface 102 (.pointer (some ⟨ab k, 0, none⟩))] 112)).heap[R]? = some (.cells rc 96)) := hid (row_alloc hK.out.st.run)
          have HC3 := hid hK.out.st.ok.c3
          have GB : Hid (∀ W : World, W.heap[wr.heap.size]? = some (.cells #[.int .i64 (A k), .int .u64 ((k : Int) + 1), .iface 102 (.pointer (some ⟨ab k, 0, none⟩))] 112) → W.heap[R]? = some (.cells rc 96) → W.cell? ⟨wr.heap.size, 0, none⟩ = some (.int .i64 (A k)) ∧ W.cell? ⟨wr.heap.size, 1, none⟩ = some (.int .u64 ((k : Int) + 1)) ∧ W.cell? ⟨wr.heap.size, 2, none⟩ = some (.iface 102 (.pointer (some ⟨ab k, 0, none⟩))) ∧ W.cell? ⟨R, 3, none⟩ = some (.int .i64 since)) := hid (fun W h1 h2 => ⟨cell_of_row _ _ _ _ _ _ h1, cell_of_row _ _ _ _ _ _ h1, cell_of_row _ _ _ _ _ _ h1, (cell_of_row _ _ _ _ _ _ h2).trans HC3.out⟩)
          have G0 := hid (GB.out (wr.alloc (.cells #[.int .i64 (A k), .int .u64 ((k : Int) + 1), .iface 102 (.pointer (some ⟨ab k, 0, none⟩))] 112)) WB.out WR.out)
          have nSb : Hid (¬ wr.heap.size = Sb) := hid (by have := lt_of_block hK.out.seen; omega)
          have nSR : Hid (¬ R = Sb) := hid (ty_ne hK.out.st.run hK.out.seen (by decide))
          have G1 : Hid (∀ W : World, Fr (fun j => j = Sb) (wr.alloc (.cells #[.int .i64 (A k), .int .u64 ((k : Int) + 1), .iface 102 (.pointer (some ⟨ab k, 0, none⟩))] 112)).drew W → W.cell? ⟨wr.heap.size, 0, none⟩ = some (.int .i64 (A k)) ∧ W.cell? ⟨wr.heap.size, 1, none⟩ = some (.int .u64 ((k : Int) + 1)) ∧ W.cell? ⟨wr.heap.size, 2, none⟩ = some (.iface 102 (.pointer (some ⟨ab k, 0, none⟩))) ∧ W.cell? ⟨R, 3, none⟩ = some (.int .i64 since)) := hid (fun W f => GB.out W ((f.block _ (lt_of_block (w := (wr.alloc (.cells #[.int .i64 (A k), .int .u64 ((k : Int) + 1), .iface 102 (.pointer (some ⟨ab k, 0, none⟩))] 112)).drew) WB.out) nSb.out).trans WB.out) ((f.block _ (lt_of_block (w := (wr.alloc (.cells #[.int .i64 (A k), .int .u64 ((k : Int) + 1), .iface 102 (.pointer (some ⟨ab k, 0, none⟩))] 112)).drew) WR.out) nSR.out).trans WR.out))
          go_wp2_with fail
          go_region_held3 (fun W => W.cell? ⟨wr.heap.size, 0, none⟩ = some (.int .i64 (A k)) ∧ W.cell? ⟨wr.heap.size, 1, none⟩ = some (.int .u64 ((k : Int) + 1)) ∧ W.cell? ⟨wr.heap.size, 2, none⟩ = some (.iface 102 (.pointer (some ⟨ab k, 0, none⟩))) ∧ W.cell? ⟨R, 3, none⟩ = some (.int .i64 since)) (first | exact G0.out | exact G1.out _ ‹_›) ((go_at_call 12; refine CO.out.mono ?_; rintro e w2 ⟨rfl, hw2, fw2⟩))
          have HK2 := hid hw2
          have B2 : Hid (w2.heap[wr.heap.size]? = some (.cells #[.int .i64 (A k), .int .u64 ((k : Int) + 1), .iface 102 (.pointer (some ⟨ab k, 0, none⟩))] 112)) := hid ((fw2.block _ (lt_of_block (w := (wr.alloc (.cells #[.int .i64 (A k), .int .u64 ((k : Int) + 1), .iface 102 (.pointer (some ⟨ab k, 0, none⟩))] 112)).drew) WB.out) nSb.out).trans WB.out)
          rw [← HT.out] at HK2
          clear hw2 fw2 G0 G1 GB WB WR CO KD
          rename_i hHeld
          clear hHeld
          by_cases hj0 : 0 < j
          · obtain ⟨u, hu⟩ : ∃ u, u = (j - 1) / 2 := ⟨_, rfl⟩
            have Hu := hid hu
            have huj : u < j := by omega
            have hud : ((j : Int) - 1) / 2 = (u : Int) := by omega
            have iu : (u : Int) < (q.length : Int) := by omega
            have iu0 : (0 : Int) ≤ (u : Int) := by omega
            clear hu
            obtain ⟨k2, hk2⟩ : ∃ k2, k2 = q.getD u 0 := ⟨_, rfl⟩
            have t0 : w2.cell? ⟨g, u * 3, none⟩ = some (.int .i64 (A k2)) := by rw [hk2]; exact HK2.out.qCell u 0 (by omega) (by omega)
            have t1 : w2.cell? ⟨g, u * 3 + 1, none⟩ = some (.int .u64 ((k2 : Int) + 1)) := by rw [hk2]; exact HK2.out.qCell u 1 (by omega) (by omega)
            have t2 : w2.cell? ⟨g, u * 3 + 2, none⟩ = some (.iface 102 (.pointer (some ⟨ab k2, 0, none⟩))) := by rw [hk2]; exact HK2.out.qCell u 2 (by omega) (by omega)
            have t5 : w2.cell? ⟨R, 5, none⟩ = some (.slice (some ⟨g, 0, none⟩) q.length qc) := (cell_of_row _ _ _ _ _ _ HK2.out.st.run).trans HK2.out.st.ok.c5
            have y0 : w2.cell? ⟨wr.heap.size, 0, none⟩ = some (.int .i64 (A k)) := cell_of_row _ _ _ _ _ _ B2.out
            have y1 : w2.cell? ⟨wr.heap.size, 1, none⟩ = some (.int .u64 ((k : Int) + 1)) := cell_of_row _ _ _ _ _ _ B2.out
            have y2 : w2.cell? ⟨wr.heap.size, 2, none⟩ = some (.iface 102 (.pointer (some ⟨ab k, 0, none⟩))) := cell_of_row _ _ _ _ _ _ B2.out
            have G2 : Hid (∀ W, Fr (fun _ => False) w2 W → W.cell? ⟨wr.heap.size, 0, none⟩ = some (.int .i64 (A k)) ∧ W.cell? ⟨wr.heap.size, 1, none⟩ = some (.int .u64 ((k : Int) + 1)) ∧ W.cell? ⟨wr.heap.size, 2, none⟩ = some (.iface 102 (.pointer (some ⟨ab k, 0, none⟩))) ∧ W.cell? ⟨R, 5, none⟩ = some (.slice (some ⟨g, 0, none⟩) q.length qc) ∧ W.cell? ⟨g, u * 3, none⟩ = some (.int .i64 (A k2)) ∧ W.cell? ⟨g, u * 3 + 1, none⟩ = some (.int .u64 ((k2 : Int) + 1)) ∧ W.cell? ⟨g, u * 3 + 2, none⟩ = some (.iface 102 (.pointer (some ⟨ab k2, 0, none⟩)))) := hid (fun W f => ⟨cell_fr y0 f, cell_fr y1 f, cell_fr y2 f, cell_fr t5 f, cell_fr t0 f, cell_fr t1 f, cell_fr t2 f⟩)
            have F0 := hid (Fr.refl (fun _ => False) w2)
            have Fd := hid ((Fr.refl (fun _ => False) w2).drew)
            have hbf : bf (A k) ((k : Int) + 1) (A k2) ((k2 : Int) + 1) = false := by
              have := IV.out.heapQ j hj0 hjq
              rw [← HK.out, ← Hu.out, ← hk2] at this
              exact this
            have hj0' : (0 : Int) < (j : Int) := by omega
            have w1 : IntKind.i64.wrap ((j : Int) - 1) = (j : Int) - 1 := by rw [IntKind.wrap_i64]; omega
            have w2' : ((j : Int) - 1).tdiv 2 = (u : Int) := by rw [Int.tdiv_eq_ediv_of_nonneg (by omega)]; omega
            have w3' : IntKind.i64.wrap (u : Int) = (u : Int) := by rw [IntKind.wrap_i64]; omega
            clear hk2 e5 e3 s0 s1 s2
            go_wp2_with fail
            go_region_held3 (fun W => W.cell? ⟨wr.heap.size, 0, none⟩ = some (.int .i64 (A k)) ∧ W.cell? ⟨wr.heap.size, 1, none⟩ = some (.int .u64 ((k : Int) + 1)) ∧ W.cell? ⟨wr.heap.size, 2, none⟩ = some (.iface 102 (.pointer (some ⟨ab k, 0, none⟩))) ∧ W.cell? ⟨R, 5, none⟩ = some (.slice (some ⟨g, 0, none⟩) q.length qc) ∧ W.cell? ⟨g, u * 3, none⟩ = some (.int .i64 (A k2)) ∧ W.cell? ⟨g, u * 3 + 1, none⟩ = some (.int .u64 ((k2 : Int) + 1)) ∧ W.cell? ⟨g, u * 3 + 2, none⟩ = some (.iface 102 (.pointer (some ⟨ab k2, 0, none⟩)))) (first | exact G2.out _ F0.out | exact G2.out _ Fd.out | exact G2.out _ (Fd.out.trans ‹_›)) ((go_at_call 13; refine (before_any _ _ _ _ _ _ _).mono ?_; rintro e w3 ⟨rfl, hw3⟩))
            have K3 := hid (HK2.out.keep (Fd.out.trans hw3))
            clear hw3 G2 F0 Fd y0 y1 y2 t0 t1 t2 t5
            rename_i hHeld
            clear hHeld
            go_wp2_with fail
            go_roundw
            case rel => exact ⟨j + 1, by omega, by go_num, K3⟩
            case measure => simp [intOf]; omega
          · have hjd : decide ((0 : Int) < (j : Int)) = false := by simp; omega
            go_wp2_with fail
            go_quiet (fail)
            have K3 := hid (HK2.out.keep ((Fr.refl (fun _ => False) w2).drewN nq))
            go_wp2_with fail
            go_roundw
            case rel => exact ⟨j + 1, by omega, by go_num, K3⟩
            case measure => simp [intOf]; omega
        · obtain rfl : j = q.length := by omega
          rw [List.take_length] at hK
          clear e3
          go_wp2_with fail
          clear e5 lR hqn
          have HKq : Hid (Chk A ab R since Ab F n (actRow n ab n) rc (.slice qa q.length qc) (.slice la Ls.length lc) hv q Ls H Sb w wr (q ++ mem (Ls.take 0))) := by
            have e : q ++ mem (Ls.take 0) = q := by simp [mem]
            rw [e]
            exact hK
          go_loopw [16, 17] (fun v16 v17 wq => ∃ li : Nat, li ≤ Ls.length ∧ v17 = .int .i64 (li : Int) ∧ v16 = .int .i64 (((Ls.take li).countP full : Nat) : Int) ∧ Hid (Chk A ab R since Ab F n (actRow n ab n) rc (.slice qa q.length qc) (.slice la Ls.length lc) hv q Ls H Sb w wq (q ++ mem (Ls.take li)))) (fun _ v17 _ => Ls.length - (intOf v17).toNat)
          case atStart => exact ⟨0, Nat.zero_le _, rfl, rfl, HKq⟩
          case round =>
            clear hK HKq
            obtain ⟨li, hli, rfl, rfl, hK⟩ := hrel
            have e9 : wr.cell? ⟨R, 9, none⟩ = some (.slice la Ls.length lc) := (cell_of_row _ _ _ _ _ _ hK.out.st.run).trans hK.out.st.ok.c9
            have lR : R < wr.heap.size := lt_of_block hK.out.st.run
            by_cases hlt : li < Ls.length
            · obtain ⟨lb, hlb⟩ : ∃ lb, la = some ⟨lb, 0, none⟩ := by
                rcases hK.out.st.lown.2 with ⟨h1, h2⟩ | ⟨g, cap, cur, h1, _⟩
                · omega
                · simp at h1; exact ⟨g, h1.1⟩
              subst hlb
              obtain ⟨x, hx⟩ : ∃ x, Ls[li]? = some x := ⟨_, List.getElem?_eq_getElem hlt⟩
              have ii : (li : Int) < (Ls.length : Int) := by omega
              have ii0 : (0 : Int) ≤ (li : Int) := by omega
              have d0 : wr.cell? ⟨lb, li * 4, none⟩ = some (.int .i64 x.1) := hK.out.st.laneCell li 0 x hx (by omega)
              have d1 : wr.cell? ⟨lb, li * 4 + 1, none⟩ = some x.2.1 := hK.out.st.laneCell li 1 x hx (by omega)
              have d2 : wr.cell? ⟨lb, li * 4 + 1 + 1, none⟩ = some (.int .i64 0) := hK.out.st.laneCell li 2 x hx (by omega)
              have d3 : wr.cell? ⟨lb, li * 4 + 1 + 2, none⟩ = some (.int .i64 (x.2.2.length : Int)) := hK.out.st.laneCell li 3 x hx (by omega)
              have MN := hid (mem_next hx)
              have CN := hid (cnt_next hx)
              rcases hK.out.st.ring li x hx with ⟨r1, r2⟩ | ⟨g, sz, cur, r1, r2, r3, r4, r5, r6, r7, r8⟩
              · rw [r1] at d1
                rw [r2] at d3
                have d3' : wr.cell? ⟨lb, li * 4 + 1 + 2, none⟩ = some (.int .i64 0) := d3
                have fx : full x = false := by unfold full; rw [r2]; rfl
                have K3 : Hid (Chk A ab R since Ab F n (actRow n ab n) rc (.slice qa q.length qc) (.slice (some ⟨lb, 0, none⟩) Ls.length lc) hv q Ls H Sb w wr (q ++ mem (Ls.take (li + 1)))) := by
                  rw [MN.out, r2, List.append_nil]; exact hK
                have C3 : (Ls.take (li + 1)).countP full = (Ls.take li).countP full := by rw [CN.out, fx]; rfl
                clear d3 MN CN r1 r2 fx
                go_wp2_with fail
                go_quiet (fail)
                have K4 := hid (K3.out.keep ((Fr.refl (fun _ => False) wr).drewN nq))
                go_wp2_with fail
                go_roundw
                case rel => exact ⟨li + 1, by omega, by go_num, by rw [C3], K4⟩
                case measure => simp [intOf]; omega
              · obtain ⟨m, hm⟩ : ∃ m, m = x.2.2 := ⟨_, rfl⟩
                rw [← hm] at d3 r6 r7 r8
                rw [r1] at d1
                obtain ⟨ml, hml⟩ : ∃ ml, ml = m.length := ⟨_, rfl⟩
                rw [← hml] at d3 r6 r7 r8
                have p0 : ¬ (ml : Int) < 0 := by omega
                have p1 : ¬ (sz : Int) < (ml : Int) := by omega
                have p2 : ((ml : Int) == 0) = false := by simp; omega
                have p3 := r5.and0
                have szb : sz ≤ 512 := by rcases r5 with h | h | h | h <;> omega
                have szb1 : 1 ≤ sz := by omega
                have cb : (Ls.take li).countP full ≤ 8 := by
                  have := List.countP_le_length (p := full) (l := Ls.take li)
                  have h2 : (Ls.take li).length ≤ li := List.length_take_le _ _
                  omega
                obtain ⟨cn, hcn⟩ : ∃ cn, cn = (Ls.take li).countP full := ⟨_, rfl⟩
                rw [← hcn] at cb ⊢
                have fx : full x = true := by
                  unfold full
                  rw [← hm]
                  cases hmm : m with
                  | nil => rw [hmm] at hml; simp at hml; omega
                  | cons y ys => rfl
                have C3 : (Ls.take (li + 1)).countP full = cn + 1 := by rw [CN.out, fx, hcn]; rfl
                have HC3 := hid C3
                have HM := hid hm
                have HML := hid hml
                have R3 := hid (show ∃ cur : Array Value, wr.heap[g]? = some (.cells cur 112) ∧ cur.toList.take (ml * 3) = evs A ab m from ⟨cur, r3, r8⟩)
                have PW := hid r5
                have LO := hid (IV.out.laneOk li x hx)
                have HX := hid hx
                have r7' := r7
                have R1 := hid r1
                clear CN r1 r2 r3 r4 r8 C3 hcn hm fx hml
                have p0' : decide ((ml : Int) < 0) = false := by simp
                go_wp2_with fail
                go_quiet (fail)
                have hK := hid (hK.out.keep ((Fr.refl (fun _ => False) wr).drewN nq))
                go_wp2_with fail
                have HK0 : Hid (Chk A ab R since Ab F n (actRow n ab n) rc (.slice qa q.length qc) (.slice (some ⟨lb, 0, none⟩) Ls.length lc) hv q Ls H Sb w (wr.drewN nq) (q ++ (mem (Ls.take li) ++ m.take 0))) := by
                  rw [List.take_zero, List.append_nil]; exact hK
                have mb : ml ≤ 512 := by omega
                clear d0 d1 d2 d3 hK e9 lR R3 p0 p1 p2 p3 p0'
                generalize wr.drewN nq = W3 at *
                go_loopw [20, 21] (fun v20 v21 wq => ∃ j : Nat, j ≤ ml ∧ v21 = .int .i64 (j : Int) ∧ v20 = .int .u64 (prevV m j) ∧ Hid (Chk A ab R since Ab F n (actRow n ab n) rc (.slice qa q.length qc) (.slice (some ⟨lb, 0, none⟩) Ls.length lc) hv q Ls H Sb w wq (q ++ (mem (Ls.take li) ++ m.take j)))) (fun _ v21 _ => ml - (intOf v21).toNat)
                case atStart => exact ⟨0, Nat.zero_le _, rfl, rfl, HK0⟩
                case round =>
                  clear HK0
                  obtain ⟨j, hj, rfl, rfl, hK⟩ := hrel
                  have d0 : wr.cell? ⟨lb, li * 4, none⟩ = some (.int .i64 x.1) := hK.out.st.laneCell li 0 x HX.out (by omega)
                  have d1 : wr.cell? ⟨lb, li * 4 + 1, none⟩ = some (.slice (some ⟨g, 0, none⟩) sz sz) := by rw [← R1.out]; exact hK.out.st.laneCell li 1 x HX.out (by omega)
                  have d2 : wr.cell? ⟨lb, li * 4 + 1 + 1, none⟩ = some (.int .i64 0) := hK.out.st.laneCell li 2 x HX.out (by omega)
                  have d3 : wr.cell? ⟨lb, li * 4 + 1 + 2, none⟩ = some (.int .i64 (ml : Int)) := by rw [HML.out, HM.out]; exact hK.out.st.laneCell li 3 x HX.out (by omega)
                  have e9 : wr.cell? ⟨R, 9, none⟩ = some (.slice (some ⟨lb, 0, none⟩) Ls.length lc) := (cell_of_row _ _ _ _ _ _ hK.out.st.run).trans hK.out.st.ok.c9
                  have lR : R < wr.heap.size := lt_of_block hK.out.st.run
                  have llb : lb < wr.heap.size := (hK.out.st.lown.lt lb rfl).2
                  by_cases hjm : j < ml
                  · have hjx : j < x.2.2.length := by rw [← HM.out, ← HML.out]; exact hjm
                    obtain ⟨k, hk⟩ : ∃ k, k = m.getD j 0 := ⟨_, rfl⟩
                    have hk' : k = x.2.2.getD j 0 := by rw [hk, HM.out]
                    have hkx : x.2.2[j]? = some k := by rw [hk']; simp [List.getD, hjx]
                    have hkm : m[j]? = some k := by rw [HM.out]; exact hkx
                    have hkn : k < n := mem_lt IV.out HX.out k (List.mem_of_getElem? hkx)
                    have hkv : k ∉ q ++ (mem (Ls.take li) ++ m.take j) := by
                      rw [HM.out, ← List.append_assoc]
                      exact lane_fresh ((IV.out.perm.nodup_iff).2 List.nodup_range) HX.out hkx
                    have htk : q ++ (mem (Ls.take li) ++ m.take (j + 1)) = q ++ (mem (Ls.take li) ++ m.take j) ++ [k] := by rw [take_next hkm]; simp only [List.append_assoc]
                    have hsx : sp k = x.1 := LO.out.1 k (List.mem_of_getElem? hkx)
                    have hback : IntKind.i64.wrap (A k - since) = x.1 := by
                      rw [← hsx]
                      have h7 := HSP.out k
                      have hb := tmod7 (bs k)
                      exact wrap_back since (sp k) (A k) (by omega) (by omega) (by rw [h7]; exact HA.out k)
                    have s0 : wr.cell? ⟨g, j * 3, none⟩ = some (.int .i64 (A k)) := by rw [hk']; exact ring_cell (hK.out.st.ring li x HX.out) R1.out j 0 hjx (by omega)
                    have s1 : wr.cell? ⟨g, j * 3 + 1, none⟩ = some (.int .u64 ((k : Int) + 1)) := by rw [hk']; exact ring_cell (hK.out.st.ring li x HX.out) R1.out j 1 hjx (by omega)
                    have s2 : wr.cell? ⟨g, j * 3 + 2, none⟩ = some (.iface 102 (.pointer (some ⟨ab k, 0, none⟩))) := by rw [hk']; exact ring_cell (hK.out.st.ring li x HX.out) R1.out j 2 hjx (by omega)
                    have lg : g < wr.heap.size := by
                      obtain ⟨_, cs, hc⟩ := (hK.out.st.ring li x HX.out).lt (g := g) (by rw [R1.out]; rfl)
                      exact lt_of_block hc
                    obtain ⟨y, rfl, hy⟩ := HS.out k hkn
                    have band := PW.out.and (len := j) (by omega)
                    have HKk := hid hk
                    have HT := hid htk
                    have PN := hid (prevV_next m j)
                    have PL : Hid (0 < j → prevV m j < (k : Int) + 1) := hid (fun h => by rw [hk]; exact prevV_lt (by rw [HM.out]; exact LO.out.2) h (by rw [← HML.out]; exact hjm))
                    have BK := hid hback
                    have ij : (j : Int) < (sz : Int) := by omega
                    have ij2 : (j : Int) < (ml : Int) := by omega
                    have WB : Hid (((wr.alloc (.cells #[.int .i64 (A k), .int .u64 ((k : Int) + 1), .iface 102 (.pointer (some ⟨ab k, 0, none⟩))] 112)).drew).heap[wr.heap.size]? = some (.cells #[.int .i64 (A k), .int .u64 ((k : Int) + 1), .iface 102 (.pointer (some ⟨ab k, 0, none⟩))] 112)) := hid (heap_new wr (.cells #[.int .i64 (A k), .int .u64 ((k : Int) + 1), .iface 102 (.pointer (some ⟨ab k, 0, none⟩))] 112))
                    have WR : Hid (((wr.alloc (.cells #[.int .i64 (A k), .int .u64 ((k : Int) + 1), .iface 102 (.pointer (some ⟨ab k, 0, none⟩))] 112)).drew).heap[R]? = some (.cells rc 96)) := hid (row_alloc hK.out.st.run)
                    have KD := hid (hK.out.keep (((Fr.refl (fun _ => False) wr).alloc (.cells #[.int .i64 (A k), .int .u64 ((k : Int) + 1), .iface 102 (.pointer (some ⟨ab k, 0, none⟩))] 112)).drew))
                    clear hkx hkm hk hk' htk hsx hback
                    go_wp2_with fail
                    go_region
                    have nSb : Hid (¬ wr.heap.size = Sb) := hid (by have := lt_of_block hK.out.seen; omega)
                    have nSR : Hid (¬ R = Sb) := hid (ty_ne hK.out.st.run hK.out.seen (by decide))
                    have C3' := hid hK.out.st.ok.c3
                    clear d0 d1 d2 d3 e9 lR llb s0 s1 s2 lg band hK
                    generalize (wr.alloc (.cells #[.int .i64 (A k), .int .u64 ((k : Int) + 1), .iface 102 (.pointer (some ⟨ab k, 0, none⟩))] 112)).drew = W4 at *
                    generalize wr.heap.size = Eb at *
                    have GB : Hid (∀ W : World, W.heap[Eb]? = some (.cells #[.int .i64 (A k), .int .u64 ((k : Int) + 1), .iface 102 (.pointer (some ⟨ab k, 0, none⟩))] 112) → W.heap[R]? = some (.cells rc 96) → W.cell? ⟨Eb, 0, none⟩ = some (.int .i64 (A k)) ∧ W.cell? ⟨Eb, 1, none⟩ = some (.int .u64 ((k : Int) + 1)) ∧ W.cell? ⟨Eb, 2, none⟩ = some (.iface 102 (.pointer (some ⟨ab k, 0, none⟩))) ∧ W.cell? ⟨R, 3, none⟩ = some (.int .i64 since)) := hid (fun W h1 h2 => ⟨cell_of_row _ _ _ _ _ _ h1, cell_of_row _ _ _ _ _ _ h1, cell_of_row _ _ _ _ _ _ h1, (cell_of_row _ _ _ _ _ _ h2).trans C3'.out⟩)
                    have G0 := hid (GB.out W4 WB.out WR.out)
                    have G1 : Hid (∀ W : World, Fr (fun j => j = Sb) W4.drew W → W.cell? ⟨Eb, 0, none⟩ = some (.int .i64 (A k)) ∧ W.cell? ⟨Eb, 1, none⟩ = some (.int .u64 ((k : Int) + 1)) ∧ W.cell? ⟨Eb, 2, none⟩ = some (.iface 102 (.pointer (some ⟨ab k, 0, none⟩))) ∧ W.cell? ⟨R, 3, none⟩ = some (.int .i64 since)) := hid (fun W f => GB.out W ((f.block _ (lt_of_block (w := W4.drew) WB.out) nSb.out).trans WB.out) ((f.block _ (lt_of_block (w := W4.drew) WR.out) nSR.out).trans WR.out))
                    have KD2 := hid (KD.out.keep ((Fr.refl (fun _ => False) W4).drew))
                    have CO := hid (KD2.out.okCall hn HR.out.symm HRS.out k hkn hkv y c (bs k) hy (HB.out k).1 (HB.out k).2 (HA.out k) (HA2.out k))
                    clear hkn hkv hy
                    go_wp2_with fail
                    go_region_held3 (fun W => W.cell? ⟨Eb, 0, none⟩ = some (.int .i64 (A k)) ∧ W.cell? ⟨Eb, 1, none⟩ = some (.int .u64 ((k : Int) + 1)) ∧ W.cell? ⟨Eb, 2, none⟩ = some (.iface 102 (.pointer (some ⟨ab k, 0, none⟩))) ∧ W.cell? ⟨R, 3, none⟩ = some (.int .i64 since)) (first | exact G0.out | exact G1.out _ ‹_›) ((go_at_call 12; refine CO.out.mono ?_; rintro e w5 ⟨rfl, hw5, fw5⟩))
                    have K5 := hid hw5
                    rw [← HT.out] at K5
                    have B5 : Hid (w5.heap[Eb]? = some (.cells #[.int .i64 (A k), .int .u64 ((k : Int) + 1), .iface 102 (.pointer (some ⟨ab k, 0, none⟩))] 112)) := hid ((fw5.block _ (lt_of_block (w := W4.drew) WB.out) nSb.out).trans WB.out)
                    clear hw5 fw5 G0 G1 GB WB WR CO KD KD2
                    rename_i hHeld
                    clear hHeld
                    have y0 : w5.cell? ⟨Eb, 0, none⟩ = some (.int .i64 (A k)) := cell_of_row _ _ _ _ _ _ B5.out
                    have y1 : w5.cell? ⟨Eb, 1, none⟩ = some (.int .u64 ((k : Int) + 1)) := cell_of_row _ _ _ _ _ _ B5.out
                    have y3 : w5.cell? ⟨R, 3, none⟩ = some (.int .i64 since) := (cell_of_row _ _ _ _ _ _ K5.out.st.run).trans K5.out.st.ok.c3
                    have y9 : w5.cell? ⟨R, 9, none⟩ = some (.slice (some ⟨lb, 0, none⟩) Ls.length lc) := (cell_of_row _ _ _ _ _ _ K5.out.st.run).trans K5.out.st.ok.c9
                    have yl : w5.cell? ⟨lb, li * 4, none⟩ = some (.int .i64 x.1) := K5.out.st.laneCell li 0 x HX.out (by omega)
                    have bk1 := BK.out
                    have bk2 : wrap64 (A k - since) = x.1 := by rw [← BK.out, IntKind.wrap_i64, wrap64]
                    go_wp2_with fail
                    go_quiet (fail)
                    have K6 := hid (K5.out.keep ((Fr.refl (fun _ => False) w5).drewN nq))
                    have B6 : Hid ((w5.drewN nq).heap[Eb]? = some (.cells #[.int .i64 (A k), .int .u64 ((k : Int) + 1), .iface 102 (.pointer (some ⟨ab k, 0, none⟩))] 112)) := B5
                    clear y0 y1 y3 y9 yl bk1 bk2 K5 B5
                    generalize w5.drewN nq = w6 at *
                    have z1 : w6.cell? ⟨Eb, 1, none⟩ = some (.int .u64 ((k : Int) + 1)) := cell_of_row _ _ _ _ _ _ B6.out
                    have lE : Eb < w6.heap.size := lt_of_block B6.out
                    by_cases hj0 : 0 < j
                    · have hpl : ¬ (k : Int) + 1 ≤ prevV m j := by have := PL.out hj0; omega
                      have hj0' : (0 : Int) < (j : Int) := by omega
                      go_wp2_with fail
                      refine ⟨⟨_, _, _, ⟨j + 1, by omega, rfl, rfl, K6⟩, rfl, ?_, ?_⟩, ?_⟩
                      · rw [PN.out, ← HKk.out]
                      · go_num
                      · simp [intOf]; omega
                    · have hj0' : ¬ (0 : Int) < (j : Int) := by omega
                      go_wp2_with fail
                      refine ⟨⟨_, _, _, ⟨j + 1, by omega, rfl, rfl, K6⟩, rfl, ?_, ?_⟩, ?_⟩
                      · rw [PN.out, ← HKk.out]
                      · go_num
                      · simp [intOf]; omega
                  · obtain rfl : j = ml := by omega
                    have K7 : Hid (Chk A ab R since Ab F n (actRow n ab n) rc (.slice qa q.length qc) (.slice (some ⟨lb, 0, none⟩) Ls.length lc) hv q Ls H Sb w wr (q ++ mem (Ls.take (li + 1)))) := by
                      have e : q ++ (mem (Ls.take li) ++ m.take j) = q ++ mem (Ls.take (li + 1)) := by
                        rw [MN.out, ← HM.out, HML.out, List.take_length]
                      rw [← e]
                      exact hK
                    have ij2 : ¬ (j : Int) < (j : Int) := by omega
                    clear d0 d1 d2 hK
                    go_wp2_with fail
                    go_roundw
                    case rel => exact ⟨li + 1, by omega, by go_num, by rw [HC3.out]; go_num, K7⟩
                    case measure => simp [intOf]; omega
            · obtain rfl : li = Ls.length := by omega
              rw [List.take_length] at hK
              have cnt := IV.out.cnt
              rw [List.take_length, cnt]
              obtain ⟨ha, hc, hhv⟩ := own_shape hK.out.st.hown
              subst hhv
              have e10 : wr.cell? ⟨R, 10, none⟩ = some (.slice ha H.length hc) := (cell_of_row _ _ _ _ _ _ hK.out.st.run).trans hK.out.st.ok.c10
              have hH8 : H.length ≤ 8 := by
                have := List.countP_le_length (p := full) (l := Ls)
                omega
              have hmb := make_bools Ls.length (by omega)
              have ni : ¬ ((Ls.length : Nat) : Int) < ((Ls.length : Nat) : Int) := by omega
              clear cnt
              go_wp2_with fail
              have KI : Hid (Chk A ab R since Ab F n (actRow n ab n) rc (.slice qa q.length qc) (.slice la Ls.length lc) (.slice ha H.length hc) q Ls H Sb w (wr.alloc (.cells (Array.replicate Ls.length (.bool false)) 4)) (q ++ mem Ls)) := hid (hK.out.keep ((Fr.refl (fun _ => False) wr).alloc _))
              have BI : Hid ((wr.alloc (.cells (Array.replicate Ls.length (.bool false)) 4)).heap[wr.heap.size]? = some (.cells (seenRow Ls.length (fun l => decide (l ∈ H.take 0))) 4)) := hid (by
                have e : seenRow Ls.length (fun k => decide (k ∈ H.take 0)) = Array.replicate Ls.length (.bool false) := by
                  rw [← seenRow_false]; congr 1
                rw [e]
                exact heap_new wr _)
              have nIS : Hid (wr.heap.size ≠ Sb) := hid (by have := lt_of_block hK.out.seen; omega)
              have lRI : Hid (R ≤ wr.heap.size) := hid (by omega)
              clear e9 e10 lR hmb ni hK
              generalize wr.alloc (.cells (Array.replicate Ls.length (.bool false)) 4) = W5 at *
              generalize wr.heap.size = Ib at *
              go_loopw [24] (fun v24 wq => ∃ j : Nat, j ≤ H.length ∧ v24 = .int .i64 (j : Int) ∧ Hid (Chk A ab R since Ab F n (actRow n ab n) rc (.slice qa q.length qc) (.slice la Ls.length lc) (.slice ha H.length hc) q Ls H Sb w wq (q ++ mem Ls)) ∧ Hid (wq.heap[Ib]? = some (.cells (seenRow Ls.length (fun l => decide (l ∈ H.take j))) 4))) (fun v24 _ => H.length - (intOf v24).toNat)
              case atStart => exact ⟨0, Nat.zero_le _, rfl, KI, BI⟩
              case round =>
                clear KI BI
                obtain ⟨j, hj, rfl, hK, hI⟩ := hrel
                have e9 : wr.cell? ⟨R, 9, none⟩ = some (.slice la Ls.length lc) := (cell_of_row _ _ _ _ _ _ hK.out.st.run).trans hK.out.st.ok.c9
                have e10 : wr.cell? ⟨R, 10, none⟩ = some (.slice ha H.length hc) := (cell_of_row _ _ _ _ _ _ hK.out.st.run).trans hK.out.st.ok.c10
                have lR : R < wr.heap.size := lt_of_block hK.out.st.run
                by_cases hjH : j < H.length
                · obtain ⟨hb, hhb⟩ : ∃ hb, ha = some ⟨hb, 0, none⟩ := by
                    rcases hK.out.st.hown.2 with ⟨h1, h2⟩ | ⟨g, cap, cur, h1, _⟩
                    · omega
                    · simp at h1; exact ⟨g, h1.1⟩
                  subst hhb
                  obtain ⟨h, hh⟩ : ∃ h, h = H.getD j 0 := ⟨_, rfl⟩
                  have hhH : H[j]? = some h := by rw [hh]; simp [List.getD, hjH]
                  obtain ⟨x, hx, hxn⟩ := IV.out.memH h (List.mem_of_getElem? hhH)
                  have hhl : h < Ls.length := (List.getElem?_eq_some_iff.1 hx).1
                  obtain ⟨lb, hlb⟩ : ∃ lb, la = some ⟨lb, 0, none⟩ := by
                    rcases hK.out.st.lown.2 with ⟨h1, h2⟩ | ⟨g, cap, cur, h1, _⟩
                    · omega
                    · simp at h1; exact ⟨g, h1.1⟩
                  subst hlb
                  have c0 : wr.cell? ⟨hb, j, none⟩ = some (.int .i64 (h : Int)) := by rw [hh, hK.out.st.hown.cellAt j (by omega), ints_get H j hjH]
                  have hni : h ∉ H.take j := not_in_take IV.out.nodupH hhH
                  have c1 : wr.cell? ⟨Ib, h, none⟩ = some (.bool false) := by rw [cell_of_row _ _ _ _ _ _ hI.out, seenRow_get _ _ _ hhl]; simp [hni]
                  have f1 : wr.frozen? ⟨Ib, h, none⟩ = false := frozen_of_row _ _ _ _ _ hI.out
                  obtain ⟨xl, hxl⟩ : ∃ xl, xl = x.2.2.length := ⟨_, rfl⟩
                  have hxl0 : 0 < xl := by
                    rw [hxl]
                    cases hm : x.2.2 with
                    | nil => exact absurd hm hxn
                    | cons _ _ => simp
                  have c3 : wr.cell? ⟨lb, h * 4 + 1 + 2, none⟩ = some (.int .i64 (xl : Int)) := by rw [hxl]; exact hK.out.st.laneCell h 3 x hx (by omega)
                  have ih : (h : Int) < (Ls.length : Int) := by omega
                  have ih0 : ¬ (h : Int) < 0 := by omega
                  have ih1 : ¬ (Ls.length : Int) ≤ (h : Int) := by omega
                  have ij : (j : Int) < (H.length : Int) := by omega
                  have p2 : ((xl : Int) == 0) = false := by simp; omega
                  have lI : Ib < wr.heap.size := lt_of_block hI.out
                  have fI : Fr (fun k => k = Ib) wr (wr.setCell ⟨Ib, h, none⟩ (.bool true)) := (Fr.refl (fun k => k = Ib) wr).setCell (ad := ⟨Ib, h, none⟩) (fun _ => rfl) _
                  have K6 := hid (show Chk A ab R since Ab F n (actRow n ab n) rc (.slice qa q.length qc) (.slice (some ⟨lb, 0, none⟩) Ls.length lc) (.slice (some ⟨hb, 0, none⟩) H.length hc) q Ls H Sb w (wr.setCell ⟨Ib, h, none⟩ (.bool true)) (q ++ mem Ls) from ⟨hK.out.st.other hI.out fI, (fI.block Sb (lt_of_block hK.out.seen) (fun e => nIS.out e.symm)).trans hK.out.seen, hK.out.fr.trans (fI.mono (fun k _ e => by have := lRI.out; omega))⟩)
                  have I6 : Hid ((wr.setCell ⟨Ib, h, none⟩ (.bool true)).heap[Ib]? = some (.cells (seenRow Ls.length (fun l => decide (l ∈ H.take (j + 1)))) 4)) := hid (by
                    rw [heap_setCell_same _ Ib h _ _ (.bool true) hI.out, seenRow_set]
                    congr 3
                    funext l
                    rw [take_next hhH]
                    unfold upd
                    by_cases e : l = h
                    · subst e; simp
                    · simp [e])
                  clear fI hx hxn hxl hhH hh hni
                  go_wp2_with fail
                  go_roundw
                  case rel => exact ⟨j + 1, by omega, by go_num, K6, I6⟩
                  case measure => simp [intOf]; omega
                · obtain rfl : j = H.length := by omega
                  have ij : ¬ ((H.length : Nat) : Int) < ((H.length : Nat) : Int) := by omega
                  go_wp2_with fail
                  have KJ : Hid (Chk A ab R since Ab F n (actRow n ab n) rc (.slice qa q.length qc) (.slice la Ls.length lc) (.slice ha H.length hc) q Ls H Sb w wr (q ++ mem Ls)) := hK
                  clear hK hI e9 e10 lR ij nIS lRI
                  go_loopw [26] (fun v26 wq => ∃ j : Nat, 1 ≤ j ∧ j ≤ H.length + 1 ∧ v26 = .int .i64 (j : Int) ∧ Hid (Chk A ab R since Ab F n (actRow n ab n) rc (.slice qa q.length qc) (.slice la Ls.length lc) (.slice ha H.length hc) q Ls H Sb w wq (q ++ mem Ls))) (fun v26 _ => H.length + 1 - (intOf v26).toNat)
                  case atStart => exact ⟨1, Nat.le_refl _, by omega, rfl, KJ⟩
                  case round =>
                    clear KJ
                    obtain ⟨j, hj1, hj2, rfl, hK⟩ := hrel
                    have e9 : wr.cell? ⟨R, 9, none⟩ = some (.slice la Ls.length lc) := (cell_of_row _ _ _ _ _ _ hK.out.st.run).trans hK.out.st.ok.c9
                    have e10 : wr.cell? ⟨R, 10, none⟩ = some (.slice ha H.length hc) := (cell_of_row _ _ _ _ _ _ hK.out.st.run).trans hK.out.st.ok.c10
                    have lR : R < wr.heap.size := lt_of_block hK.out.st.run
                    by_cases hjH : j < H.length
                    · obtain ⟨hb, hhb⟩ : ∃ hb, ha = some ⟨hb, 0, none⟩ := by
                        rcases hK.out.st.hown.2 with ⟨h1, h2⟩ | ⟨g, cap, cur, h1, _⟩
                        · omega
                        · simp at h1; exact ⟨g, h1.1⟩
                      subst hhb
                      obtain ⟨u, hu⟩ : ∃ u, u = (j - 1) / 2 := ⟨_, rfl⟩
                      have huH : u < H.length := by omega
                      obtain ⟨x, hx⟩ : ∃ x, x = H.getD j 0 := ⟨_, rfl⟩
                      obtain ⟨y, hy⟩ : ∃ y, y = H.getD u 0 := ⟨_, rfl⟩
                      have hxH : H[j]? = some x := by rw [hx]; simp [List.getD, hjH]
                      have hyH : H[u]? = some y := by rw [hy]; simp [List.getD, huH]
                      obtain ⟨lx, hlx, hlxn⟩ := IV.out.memH x (List.mem_of_getElem? hxH)
                      obtain ⟨ly, hly, hlyn⟩ := IV.out.memH y (List.mem_of_getElem? hyH)
                      obtain ⟨lb, hlb⟩ : ∃ lb, la = some ⟨lb, 0, none⟩ := by
                        have := (List.getElem?_eq_some_iff.1 hlx).1
                        rcases hK.out.st.lown.2 with ⟨h1, h2⟩ | ⟨g, cap, cur, h1, _⟩
                        · omega
                        · simp at h1; exact ⟨g, h1.1⟩
                      subst hlb
                      have c0 : wr.cell? ⟨hb, j, none⟩ = some (.int .i64 (x : Int)) := by rw [hx, hK.out.st.hown.cellAt j (by omega), ints_get H j hjH]
                      have c1 : wr.cell? ⟨hb, u, none⟩ = some (.int .i64 (y : Int)) := by rw [hy, hK.out.st.hown.cellAt u (by omega), ints_get H u huH]
                      obtain ⟨gi, si, ci, p1, p2, p3, p4, p5, p6, p7, p8⟩ := hK.out.st.fst (hb := hb) rfl x lx hlx hlxn
                      obtain ⟨gj, sj, cj, r1, r2, r3, r4, r5, r6, r7, r8⟩ := hK.out.st.fst (hb := hb) rfl y ly hly hlyn
                      obtain ⟨kx, hkx⟩ : ∃ kx, kx = fstOf Ls x := ⟨_, rfl⟩
                      obtain ⟨ky, hky⟩ : ∃ ky, ky = fstOf Ls y := ⟨_, rfl⟩
                      rw [← hkx] at p6 p7 p8
                      rw [← hky] at r6 r7 r8
                      have hbf : bf (A kx) ((kx : Int) + 1) (A ky) ((ky : Int) + 1) = false := by
                        have := IV.out.heapH j (by omega) hjH
                        rw [← hu, ← hx, ← hy] at this
                        unfold ltH at this
                        rw [← hkx, ← hky] at this
                        exact this
                      have G0 : Hid (wr.cell? ⟨R, 9, none⟩ = some (.slice (some ⟨lb, 0, none⟩) Ls.length lc) ∧ wr.cell? ⟨R, 10, none⟩ = some (.slice (some ⟨hb, 0, none⟩) H.length hc) ∧ wr.cell? ⟨hb, j, none⟩ = some (.int .i64 (x : Int)) ∧ wr.cell? ⟨hb, u, none⟩ = some (.int .i64 (y : Int)) ∧ wr.cell? ⟨lb, x * 4 + 1, none⟩ = some (.slice (some ⟨gi, 0, none⟩) si ci) ∧ wr.cell? ⟨lb, x * 4 + 1 + 1, none⟩ = some (.int .i64 0) ∧ wr.cell? ⟨lb, y * 4 + 1, none⟩ = some (.slice (some ⟨gj, 0, none⟩) sj cj) ∧ wr.cell? ⟨lb, y * 4 + 1 + 1, none⟩ = some (.int .i64 0) ∧ wr.cell? ⟨gi, 0, none⟩ = some (.int .i64 (A kx)) ∧ wr.cell? ⟨gi, 1, none⟩ = some (.int .u64 ((kx : Int) + 1)) ∧ wr.cell? ⟨gi, 2, none⟩ = some (.iface 102 (.pointer (some ⟨ab kx, 0, none⟩))) ∧ wr.cell? ⟨gj, 0, none⟩ = some (.int .i64 (A ky)) ∧ wr.cell? ⟨gj, 1, none⟩ = some (.int .u64 ((ky : Int) + 1)) ∧ wr.cell? ⟨gj, 2, none⟩ = some (.iface 102 (.pointer (some ⟨ab ky, 0, none⟩)))) := hid ⟨e9, e10, c0, c1, p4, p5, r4, r5, p6, p7, p8, r6, r7, r8⟩
                      have G2 : Hid (∀ W, Fr (fun _ => False) wr W → W.cell? ⟨R, 9, none⟩ = some (.slice (some ⟨lb, 0, none⟩) Ls.length lc) ∧ W.cell? ⟨R, 10, none⟩ = some (.slice (some ⟨hb, 0, none⟩) H.length hc) ∧ W.cell? ⟨hb, j, none⟩ = some (.int .i64 (x : Int)) ∧ W.cell? ⟨hb, u, none⟩ = some (.int .i64 (y : Int)) ∧ W.cell? ⟨lb, x * 4 + 1, none⟩ = some (.slice (some ⟨gi, 0, none⟩) si ci) ∧ W.cell? ⟨lb, x * 4 + 1 + 1, none⟩ = some (.int .i64 0) ∧ W.cell? ⟨lb, y * 4 + 1, none⟩ = some (.slice (some ⟨gj, 0, none⟩) sj cj) ∧ W.cell? ⟨lb, y * 4 + 1 + 1, none⟩ = some (.int .i64 0) ∧ W.cell? ⟨gi, 0, none⟩ = some (.int .i64 (A kx)) ∧ W.cell? ⟨gi, 1, none⟩ = some (.int .u64 ((kx : Int) + 1)) ∧ W.cell? ⟨gi, 2, none⟩ = some (.iface 102 (.pointer (some ⟨ab kx, 0, none⟩))) ∧ W.cell? ⟨gj, 0, none⟩ = some (.int .i64 (A ky)) ∧ W.cell? ⟨gj, 1, none⟩ = some (.int .u64 ((ky : Int) + 1)) ∧ W.cell? ⟨gj, 2, none⟩ = some (.iface 102 (.pointer (some ⟨ab ky, 0, none⟩)))) := hid (fun W f => ⟨cell_fr e9 f, cell_fr e10 f, cell_fr c0 f, cell_fr c1 f, cell_fr p4 f, cell_fr p5 f, cell_fr r4 f, cell_fr r5 f, cell_fr p6 f, cell_fr p7 f, cell_fr p8 f, cell_fr r6 f, cell_fr r7 f, cell_fr r8 f⟩)
                      have Fd := hid ((Fr.refl (fun _ => False) wr).drew)
                      have w1 : IntKind.i64.wrap ((j : Int) - 1) = (j : Int) - 1 := by rw [IntKind.wrap_i64]; omega
                      have w2' : ((j : Int) - 1).tdiv 2 = (u : Int) := by rw [Int.tdiv_eq_ediv_of_nonneg (by omega)]; omega
                      have w3' : IntKind.i64.wrap (u : Int) = (u : Int) := by rw [IntKind.wrap_i64]; omega
                      have ij : (j : Int) < (H.length : Int) := by omega
                      have iu : (u : Int) < (H.length : Int) := by omega
                      have ix : (x : Int) < (Ls.length : Int) := by omega
                      have iy : (y : Int) < (Ls.length : Int) := by omega
                      clear hu hx hy hxH hyH hlx hlxn hly hlyn hkx hky c0 c1 p3 p4 p5 p6 p7 p8 r3 r4 r5 r6 r7 r8
                      go_wp2_with fail
                      go_region_held3 (fun W => W.cell? ⟨R, 9, none⟩ = some (.slice (some ⟨lb, 0, none⟩) Ls.length lc) ∧ W.cell? ⟨R, 10, none⟩ = some (.slice (some ⟨hb, 0, none⟩) H.length hc) ∧ W.cell? ⟨hb, j, none⟩ = some (.int .i64 (x : Int)) ∧ W.cell? ⟨hb, u, none⟩ = some (.int .i64 (y : Int)) ∧ W.cell? ⟨lb, x * 4 + 1, none⟩ = some (.slice (some ⟨gi, 0, none⟩) si ci) ∧ W.cell? ⟨lb, x * 4 + 1 + 1, none⟩ = some (.int .i64 0) ∧ W.cell? ⟨lb, y * 4 + 1, none⟩ = some (.slice (some ⟨gj, 0, none⟩) sj cj) ∧ W.cell? ⟨lb, y * 4 + 1 + 1, none⟩ = some (.int .i64 0) ∧ W.cell? ⟨gi, 0, none⟩ = some (.int .i64 (A kx)) ∧ W.cell? ⟨gi, 1, none⟩ = some (.int .u64 ((kx : Int) + 1)) ∧ W.cell? ⟨gi, 2, none⟩ = some (.iface 102 (.pointer (some ⟨ab kx, 0, none⟩))) ∧ W.cell? ⟨gj, 0, none⟩ = some (.int .i64 (A ky)) ∧ W.cell? ⟨gj, 1, none⟩ = some (.int .u64 ((ky : Int) + 1)) ∧ W.cell? ⟨gj, 2, none⟩ = some (.iface 102 (.pointer (some ⟨ab ky, 0, none⟩)))) (first | exact G0.out | exact G2.out _ Fd.out | exact G2.out _ (Fd.out.trans ‹Fr _ wr.drew _›) | (refine G2.out _ (Fd.out.trans (Fr.trans ‹Fr _ wr.drew _› ‹_›))) | (refine G2.out _ (Fd.out.trans (Fr.trans (Fr.trans ‹Fr _ wr.drew _› ‹_›) ‹_›)))) (first | (go_at_call_of 14 x; refine (first_fr lb (x * 4 + 1) gi si ci _ (by first | assumption | (simp only [*])) (by first | assumption | (simp only [*])) p2).mono ?_; rintro e w2 ⟨rfl, hw2⟩) | (go_at_call_of 14 y; refine (first_fr lb (y * 4 + 1) gj sj cj _ (by first | assumption | (simp only [*])) (by first | assumption | (simp only [*])) r2).mono ?_; rintro e w3 ⟨rfl, hw3⟩) | (go_at_call 13; refine (before_any _ _ _ _ _ _ _).mono ?_; rintro e w4 ⟨rfl, hw4⟩))
                      have K6 := hid (hK.out.keep (((Fd.out.trans hw2).trans hw3).trans hw4))
                      clear hw2 hw3 hw4 G0 G2 Fd e9 e10
                      rename_i hHeld
                      clear hHeld
                      go_wp2_with fail
                      go_roundw
                      case rel => exact ⟨j + 1, by omega, by omega, by go_num, K6⟩
                      case measure => simp [intOf]; omega
                    · have ij : ¬ (j : Int) < (H.length : Int) := by omega
                      go_wp2_with fail
                      have KS := hid hK.out.seen
                      have KF := hid hK.out.fr
                      clear hK e9 e10 lR
                      go_loopw [27] (fun v27 wq => ∃ i : Nat, i ≤ n ∧ v27 = .int .i64 (i : Int) ∧ wq = wr) (fun v27 _ => n - (intOf v27).toNat)
                      case atStart => exact ⟨0, Nat.zero_le _, rfl, rfl⟩
                      case round =>
                        obtain ⟨i, hi, rfl, hw⟩ := hrel
                        subst hw
                        by_cases hin : i < n
                        · have c0 : wr.cell? ⟨Sb, i, none⟩ = some (.bool true) := by
                            rw [cell_of_row _ _ _ _ _ _ KS.out, seenRow_get n _ i hin]
                            have : i ∈ q ++ mem Ls := (IV.out.perm.mem_iff).2 (List.mem_range.2 hin)
                            rw [decide_eq_true this]
                          have ii : (i : Int) < (n : Int) := by omega
                          go_wp2_with fail
                          go_roundw
                          case rel => exact ⟨i + 1, by omega, by go_num, trivial⟩
                          case measure => simp [intOf]; omega
                        · have ii : ¬ (i : Int) < (n : Int) := by omega
                          go_wp2_with fail
                          go_ret
                          exact ⟨rfl, KF.out.below (by rw [HR.out]; exact Nat.le_refl _) (fun j h => by rw [HR.out]; exact h)⟩
end Go.Proofs.Ybulkanyc
