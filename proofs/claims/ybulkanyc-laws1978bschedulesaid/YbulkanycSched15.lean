/-
  LawS1978BSchedule: run.after.
-/
import Derived.Test.YbulkanycSched14
namespace Go.Proofs.Ybulkanyc
open Go.RowKit
set_option linter.unusedVariables false

/-- What after leaves. -/
def AfterPost (A : Nat → Int) (ab : Nat → Nat) (sp : Nat → Int) (R : Nat) (since : Int) (Ab F : Nat) (acs : Array Value) (k : Nat) (w w' : World) : Prop :=
  ∃ (rc : Array Value) (qv lv hv : Value) (q : List Nat) (Ls : List Lane) (H : List Nat), St8 A ab R since Ab F acs rc qv lv hv w' k q Ls H ∧ Inv A sp k q Ls H ∧ Fr (fun j => R ≤ j) w w'

theorem St8.laneCell {A : Nat → Int} {ab : Nat → Nat} {R : Nat} {since : Int} {Ab F : Nat} {acs : Array Value} {rc : Array Value} {qv hv : Value} {w : World} {b : Nat} {q : List Nat} {Ls : List Lane} {H : List Nat} {lb cap : Nat} (s : St8 A ab R since Ab F acs rc qv (.slice (some ⟨lb, 0, none⟩) Ls.length cap) hv w b q Ls H) (l c : Nat) (x : Lane) (hx : Ls[l]? = some x) (hc : c < 4) : w.cell? ⟨lb, l * 4 + c, none⟩ = (laneRow x)[c]? := by
  have hl : l < Ls.length := (List.getElem?_eq_some_iff.1 hx).1
  rw [s.lown.cellAt (l * 4 + c) (by omega), lanesRow_get Ls l c x hx hc]
theorem St8.fst {A : Nat → Int} {ab : Nat → Nat} {R : Nat} {since : Int} {Ab F : Nat} {acs : Array Value} {rc : Array Value} {qv hv : Value} {w : World} {b : Nat} {q : List Nat} {Ls : List Lane} {H : List Nat} {lb cap hb : Nat} (s : St8 A ab R since Ab F acs rc qv (.slice (some ⟨lb, 0, none⟩) Ls.length cap) hv w b q Ls H) (hhb : hv.ownBlock = some hb) (l : Nat) (x : Lane) (hx : Ls[l]? = some x) (hne : x.2.2 ≠ []) :
    FstAt A ab lb Ls.length hb l (fstOf Ls l) w := by
  have hl : l < Ls.length := (List.getElem?_eq_some_iff.1 hx).1
  have hfs : fstOf Ls l = x.2.2.headD 0 := by unfold fstOf; rw [hx]; rfl
  obtain ⟨hcs, hhc⟩ := owns_blk s.hown hhb
  rcases s.ring l x hx with ⟨_, h2⟩ | ⟨g, sz, cur, r1, r2, r3, r4, r5, r6, r7, r8⟩
  · exact absurd h2 hne
  · have hc : ∀ c, c < 3 → w.cell? ⟨g, c, none⟩ = (ev A ab (x.2.2.headD 0))[c]? := by
      intro c hc
      rw [cell_of_row _ _ _ _ _ _ r3]
      have h1 : cur[c]? = (cur.toList.take (x.2.2.length * 3))[c]? := by
        rw [List.getElem?_take, if_pos (by omega)]
        simp
      rw [h1, r8]
      have := evs_get A ab x.2.2 0 c r6 hc
      rw [Nat.zero_mul, Nat.zero_add] at this
      rw [this]
      cases hm : x.2.2 with
      | nil => exact absurd hm hne
      | cons y ys => rfl
    refine ⟨g, sz, sz, hl, by omega, ty_ne r3 hhc (by decide), ?_, ?_, ?_, ?_, ?_⟩
    · rw [s.laneCell l 1 x hx (by omega), ← r1]; rfl
    · have := s.laneCell l 2 x hx (by omega); exact this
    · rw [hfs, hc 0 (by omega)]; rfl
    · rw [hfs, hc 1 (by omega)]; rfl
    · rw [hfs, hc 2 (by omega)]; rfl

set_option maxHeartbeats 1000000 in
theorem after_any (A : Nat → Int) (ab : Nat → Nat) (sp : Nat → Int) (R : Nat) (since : Int) (Ab F : Nat) (acs : Array Value) (k : Nat) (rc : Array Value) (qv lv hv : Value) (q : List Nat) (Ls : List Lane) (H : List Nat) (span : Int) (w : World) (s : St8 A ab R since Ab F acs rc qv lv hv w k q Ls H) (inv : Inv A sp k q Ls H)
    (hk : k ≤ 511) (hsp : sp k = span) (hs1 : -6 ≤ span) (hs2 : span ≤ 6) (hA : IntKind.i64.wrap (since + span) = A k) (hA2 : wrap64 (since + span) = A k) :
    Calls Yba.prog 10 #[.pointer (some ⟨R, 0, none⟩), .int .i64 span, .iface 102 (.pointer (some ⟨ab k, 0, none⟩))] w fun e w' => .returned (.tuple #[]) = e ∧ AfterPost A ab sp R since Ab F acs (k + 1) w w' := by
  obtain ⟨a, c, rfl⟩ := own_shape s.lown
  have c3 : w.cell? ⟨R, 3, none⟩ = some (.int .i64 since) := (cell_of_row _ _ _ _ _ _ s.run).trans s.ok.c3
  have c6 : w.cell? ⟨R, 6, none⟩ = some (.int .u64 (k : Int)) := (cell_of_row _ _ _ _ _ _ s.run).trans s.ok.c6
  have c9 : w.cell? ⟨R, 9, none⟩ = some (.slice a Ls.length c) := (cell_of_row _ _ _ _ _ _ s.run).trans s.ok.c9
  have f6 : w.frozen? ⟨R, 6, none⟩ = false := frozen_of_row _ _ _ _ _ s.run
  have lR : R < w.heap.size := lt_of_block s.run
  have S0 := hid s
  have I0 := hid inv
  clear s inv
  go_enter Yba.func10, Yba.ntmps10
  go_wp2_with fail
  go_region
  go_wp2_with fail
  have F1 : Hid (Fr (fun j => R ≤ j) w ((w.setCell ⟨R, 6, none⟩ (.int .u64 ((k : Int) + 1))).alloc (.cells #[.int .i64 (A k), .int .u64 ((k : Int) + 1), .iface 102 (.pointer (some ⟨ab k, 0, none⟩))] 112)).drew) := hid ((((Fr.refl (fun j => R ≤ j) w).setCell (ad := ⟨R, 6, none⟩) (fun _ => Nat.le_refl _) _).alloc _).drew)
  have S1 : Hid (St8 A ab R since Ab F acs (rc.setIfInBounds 6 (.int .u64 ((k + 1 : Nat) : Int))) qv (.slice a Ls.length c) hv ((w.setCell ⟨R, 6, none⟩ (.int .u64 ((k : Int) + 1))).alloc (.cells #[.int .i64 (A k), .int .u64 ((k : Int) + 1), .iface 102 (.pointer (some ⟨ab k, 0, none⟩))] 112)).drew (k + 1) q Ls H) := hid ((S0.out.runOnly (w' := w.setCell ⟨R, 6, none⟩ (.int .u64 ((k : Int) + 1))) ((Fr.refl (fun j => j = R) w).setCell (ad := ⟨R, 6, none⟩) (fun _ => rfl) _) (heap_setCell_same _ R 6 _ _ _ S0.out.run) (S0.out.ok.setB (k + 1))).fr ((((Fr.refl (fun _ => False) _).alloc _)).drew))
  have B1 : Hid ((((w.setCell ⟨R, 6, none⟩ (.int .u64 ((k : Int) + 1))).alloc (.cells #[.int .i64 (A k), .int .u64 ((k : Int) + 1), .iface 102 (.pointer (some ⟨ab k, 0, none⟩))] 112)).drew).heap[w.heap.size]? = some (.cells #[.int .i64 (A k), .int .u64 ((k : Int) + 1), .iface 102 (.pointer (some ⟨ab k, 0, none⟩))] 112)) := hid (by
    have := heap_new (w.setCell ⟨R, 6, none⟩ (.int .u64 ((k : Int) + 1))) (.cells #[.int .i64 (A k), .int .u64 ((k : Int) + 1), .iface 102 (.pointer (some ⟨ab k, 0, none⟩))] 112)
    have e : (w.setCell ⟨R, 6, none⟩ (.int .u64 ((k : Int) + 1))).heap.size = w.heap.size := by simp [World.setCell]
    rw [e] at this
    exact this)
  have QL := hid (show ∀ g, qv.ownBlock = some g → g < w.heap.size from fun g hg => (S0.out.qown.lt g hg).2)
  clear c3 c6 c9 f6 hA hA2 S0
  generalize ((w.setCell ⟨R, 6, none⟩ (.int .u64 ((k : Int) + 1))).alloc (.cells #[.int .i64 (A k), .int .u64 ((k : Int) + 1), .iface 102 (.pointer (some ⟨ab k, 0, none⟩))] 112)).drew = W1 at *
  obtain ⟨rc1, hrc1⟩ : ∃ rc1, rc1 = rc.setIfInBounds 6 (.int .u64 ((k + 1 : Nat) : Int)) := ⟨_, rfl⟩
  rw [← hrc1] at S1
  clear hrc1
  have b0 : W1.cell? ⟨w.heap.size, 0, none⟩ = some (.int .i64 (A k)) := cell_of_row _ _ _ _ _ _ B1.out
  have b1 : W1.cell? ⟨w.heap.size, 1, none⟩ = some (.int .u64 ((k : Int) + 1)) := cell_of_row _ _ _ _ _ _ B1.out
  have b2 : W1.cell? ⟨w.heap.size, 2, none⟩ = some (.iface 102 (.pointer (some ⟨ab k, 0, none⟩))) := cell_of_row _ _ _ _ _ _ B1.out
  have c9 : W1.cell? ⟨R, 9, none⟩ = some (.slice a Ls.length c) := (cell_of_row _ _ _ _ _ _ S1.out.run).trans S1.out.ok.c9
  have few : Ls.length ≤ 8 := I0.out.few
  have lR1 : R < W1.heap.size := lt_of_block S1.out.run
  go_loopw [33] (fun v33 wq => ∃ i : Nat, i ≤ Ls.length ∧ v33 = .int .i64 (i : Int) ∧ wq = W1) (fun v33 _ => Ls.length - (intOf v33).toNat)
  case atStart => exact ⟨0, Nat.zero_le _, rfl, rfl⟩
  case round =>
    obtain ⟨i, hi, rfl, hw⟩ := hrel
    subst hw
    by_cases hil : i < Ls.length
    · obtain ⟨x, hx⟩ : ∃ x, Ls[i]? = some x := ⟨_, List.getElem?_eq_getElem hil⟩
      obtain ⟨lb, hlb⟩ : ∃ lb, a = some ⟨lb, 0, none⟩ := by
        rcases S1.out.lown.2 with ⟨h1, h2⟩ | ⟨g, cap, cur, h1, _⟩
        · omega
        · simp at h1; exact ⟨g, h1.1⟩
      subst hlb
      have d0 : wr.cell? ⟨lb, i * 4, none⟩ = some (.int .i64 x.1) := S1.out.laneCell i 0 x hx (by omega)
      have ii : (i : Int) < (Ls.length : Int) := by omega
      have ii0 : (0 : Int) ≤ (i : Int) := by omega
      by_cases he : x.1 = span
      · have he' : (x.1 == span) = true := by simp [he]
        have hml : x.2.2.length ≤ k := by
          have hp := I0.out.perm.length_eq
          rw [List.length_append, List.length_range] at hp
          have : x.2.2.length ≤ (mem Ls).length := by
            unfold mem
            obtain ⟨ls1, ls2, e⟩ := List.append_of_mem (List.mem_of_getElem? hx)
            rw [e]
            simp [List.flatMap_append]
            omega
          omega
        have HC := hid (fpush_any A ab R lb Ls.length c i k Ls x wr hx rfl S1.out.lown (S1.out.ring i x hx) (by omega) (by omega))
        go_wp2_with fail
        refine HC.out.mono ?_
        rintro e w2 ⟨rfl, rv', h1, h2, h3, h4⟩
        have S2 := hid (S1.out.lane rfl rfl hx h1 h2 h3 h4)
        have F2 : Hid (Fr (fun j => R ≤ j) w w2) := hid (F1.out.trans (h4.mono (fun j _ h => by
          rcases h with h | h
          · have := (S1.out.lown.lt lb rfl).1; omega
          · exact ((S1.out.ring i x hx).lt h).1)))
        have hx2 : (Ls.set i (x.1, rv', x.2.2 ++ [k]))[i]? = some (x.1, rv', x.2.2 ++ [k]) := by rw [get_set_lane Ls i x _ hx, if_pos rfl]
        have hll : (Ls.set i (x.1, rv', x.2.2 ++ [k])).length = Ls.length := by simp
        have hown2 := h2.cellAt (i * 4 + 3) (by omega)
        rw [lanesRow_get _ i 3 _ hx2 (by omega)] at hown2
        have d3 : w2.cell? ⟨lb, i * 4 + 1 + 2, none⟩ = some (.int .i64 ((x.2.2.length : Int) + 1)) := by
          have e : (laneRow (x.1, rv', x.2.2 ++ [k]))[3]? = some (.int .i64 ((x.2.2.length : Int) + 1)) := by simp [laneRow]
          rw [← e, ← hown2]
        obtain ⟨m, hm⟩ : ∃ m, m = x.2.2.length := ⟨_, rfl⟩
        rw [← hm] at d3
        have Hm := hid hm
        have hmk : m ≤ 511 := by omega
        clear hm h1 h2 h3 h4 hown2 HC d0 c9 b0 b1 b2
        by_cases hne : m = 0
        · have ht : ((m : Int) + 1 == 1) = true := by simp; omega
          have hxe : x.2.2 = [] := List.eq_nil_of_length_eq_zero (by have := Hm.out; omega)
          have UP := hid (I0.out.firstUp (y := (x.1, rv', x.2.2 ++ [k])) hx hxe)
          obtain ⟨i0, hinf, hz0, hz1, hz2⟩ := info_parts info3
          obtain ⟨ha, hcc, hhv⟩ := own_shape S2.out.hown
          have c10 : w2.cell? ⟨R, 10, none⟩ = some hv := (cell_of_row _ _ _ _ _ _ S2.out.run).trans S2.out.ok.c10
          have lR2 : R < w2.heap.size := lt_of_block S2.out.run
          have SA := hid (S2.out.fr ((Fr.refl (fun _ => False) w2).alloc (.cells #[.int .i64 (i : Int)] 3)))
          have NW : Hid (∀ j u, (ints [i])[j]? = some u → (w2.alloc (.cells #[.int .i64 (i : Int)] 3)).cell? ((⟨w2.heap.size, 0, none⟩ : Addr).add j) = some u) := hid (fun j u hu => by
            have hadd : (⟨w2.heap.size, 0, none⟩ : Addr).add j = ⟨w2.heap.size, j, none⟩ := by unfold Addr.add; split <;> simp_all
            rw [hadd, cell_of_row _ _ _ _ _ _ (heap_new w2 _)]
            simpa [ints] using hu)
          have one := hid (show ∀ u ∈ ints [i], u.oneCell' = true from by intro u hu; simp [ints] at hu; rw [hu]; rfl)
          have hHl : H.length ≤ 8 := by
            have := I0.out.cnt
            have := List.countP_le_length (p := full) (l := Ls)
            omega
          have m1 := hid (show H.length + 1 ≤ maxLen from by simp only [maxLen]; omega)
          have m2 := hid (show (H.length + 1) * 8 ≤ 140737488355328 from by omega)
          have m3 := hid (show R ≤ (w2.alloc (.cells #[.int .i64 (i : Int)] 3)).heap.size from by rw [size_new]; omega)
          have hsz := hid (size_new w2 (.cells #[.int .i64 (i : Int)] 3))
          have HNE := hid (owns_ty SA.out.hown SA.out.run (by decide))
          clear ht
          have ht : ((m : Int) + 1 == 1) = true := by simp; omega
          subst hhv
          go_wp2_with (at_builtin; refine wpList_append_one rfl (.tmp 65) (.tmp 67) 87 rfl R 3 i0 (.int .i64 0) 1 8 Yba.underlying87 hinf hz0 hz1 hz2 rfl (by decide) (.slice ha H.length hcc) H.length (ints H) rfl SA.out.hown ⟨w2.heap.size, 0, none⟩ 1 (ints [i]) rfl rfl NW.out one.out m1.out m2.out m3.out ?_; intro hb cap w3 o3 g3 f3; have HG3 := hid g3; have HO3 := hid o3; have HF3 := hid f3; have r3 := hid ((g3.block R (by rw [hsz.out]; omega) (fun e => HNE.out e.symm)).trans SA.out.run); have c3 : w3.cell? ⟨R, 10, none⟩ = some (.slice ha H.length hcc) := (cell_of_row _ _ _ _ _ _ r3.out).trans SA.out.ok.c10; have z3 : w3.frozen? ⟨R, 10, none⟩ = false := frozen_of_row _ _ _ _ _ r3.out; have lR3 : R < w3.heap.size := lt_of_block r3.out; clear o3 g3 f3)
          have hbR : hb ≠ R := fun e => owns_ty HO3.out r3.out (by decide) (by simp [Value.ownBlock, e])
          have fS : Fr (fun j => j = R) w3 (w3.setCell ⟨R, 10, none⟩ (.slice (some ⟨hb, 0, none⟩) (H.length + 1) cap)) := (Fr.refl (fun j => j = R) w3).setCell (ad := ⟨R, 10, none⟩) (fun _ => rfl) _
          have o4 : (w3.setCell ⟨R, 10, none⟩ (.slice (some ⟨hb, 0, none⟩) (H.length + 1) cap)).ownsRow R 3 1 (.slice (some ⟨hb, 0, none⟩) (H.length + 1) cap) (H.length + 1) (ints (H ++ [i])) := by
            have e : ints (H ++ [i]) = ints H ++ ints [i] := by simp [ints]
            rw [e]
            exact owns_fr HO3.out fS (fun g hg e => by simp [Value.ownBlock] at hg; exact hbR (hg.trans e))
          have r4 := heap_setCell_same _ R 10 _ _ (.slice (some ⟨hb, 0, none⟩) (H.length + 1) cap) r3.out
          have fAll : Fr (fun j => j = R ∨ (Value.slice ha H.length hcc).ownBlock = some j) (w2.alloc (.cells #[.int .i64 (i : Int)] 3)) (w3.setCell ⟨R, 10, none⟩ (.slice (some ⟨hb, 0, none⟩) (H.length + 1) cap)) := ((Fr.of_grown HG3.out).mono (fun j _ h => .inr h.symm)).trans (fS.mono (fun j _ h => .inl h))
          have hl1 : (H ++ [i]).length = H.length + 1 := by simp
          have S4 := SA.out.heads (H' := H ++ [i]) (by rw [hl1]; exact o4) r4 (SA.out.ok.setH _) (fun g hg => by
            simp [Value.ownBlock] at hg
            subst hg
            exact HF3.out) fAll
          have F4 : Hid (Fr (fun j => R ≤ j) w (w3.setCell ⟨R, 10, none⟩ (.slice (some ⟨hb, 0, none⟩) (H.length + 1) cap))) := hid ((F2.out.alloc _).trans (fAll.mono (fun j _ h => by
            rcases h with h | h
            · omega
            · exact (SA.out.hown.lt j h).1)))
          generalize w3.setCell ⟨R, 10, none⟩ (.slice (some ⟨hb, 0, none⟩) (H.length + 1) cap) = w4 at *
          have lbne : lb ≠ hb := by
            obtain ⟨cs1, h1⟩ := owns_blk S4.lown (g := lb) rfl
            obtain ⟨cs2, h2⟩ := owns_blk S4.hown (g := hb) rfl
            exact ty_ne h1 h2 (by decide)
          rw [← hll] at S4
          have RS : Rse A ab R R lb (Ls.set i (x.1, rv', x.2.2 ++ [k])).length c hb cap (H.length + 1) (fstOf (Ls.set i (x.1, rv', x.2.2 ++ [k]))) (H ++ [i]) w4 w4 (H.length + 1 - 1) (H ++ [i]) := by
            refine ⟨hl1, o4, (cell_of_row _ _ _ _ _ _ S4.run).trans S4.ok.c9, (cell_of_row _ _ _ _ _ _ S4.run).trans S4.ok.c10, ?_, ?_, List.Perm.refl _, Fr.refl _ _⟩
            · intro l hl
              rcases List.mem_append.1 hl with hl | hl
              · obtain ⟨y, hy, hyn⟩ := I0.out.memH l hl
                have hli : ¬ l = i := fun e => UP.out.1 (e ▸ hl)
                exact S4.fst rfl l y (by rw [get_set_lane Ls i x _ hx, if_neg hli]; exact hy) hyn
              · simp at hl
                subst hl
                exact S4.fst rfl l _ hx2 (by simp)
            · rw [Nat.add_sub_cancel]; exact UP.out.2
          have HR := hid (raise_any A ab R R lb _ c hb cap (H.length + 1) _ (H ++ [i]) w4 RS lbne (Ne.symm hbR) (by omega) (by omega))
          have S4' := hid S4
          clear RS S4 o4 r4 fS fAll c3 z3 lR3 c10 lR2
          go_wp2_with fail
          refine HR.out.mono ?_
          rintro e w5 ⟨rfl, H', p1, p2, p3, p4⟩
          have hlH : H'.length = H.length + 1 := by rw [p1.length_eq]; exact hl1
          have S5 := hid (S4'.out.heads (H' := H') (by rw [hlH]; exact p3) ((p4.block R (lt_of_block S4'.out.run) (Ne.symm hbR)).trans S4'.out.run) S4'.out.ok (fun g hg => .inl hg) (p4.mono (fun j _ h => .inr (by simp [Value.ownBlock, h]))))
          have I5 := hid (I0.out.first (y := (x.1, rv', x.2.2 ++ [k])) hx hxe rfl (by show x.2.2 ++ [k] = [k]; rw [hxe]; rfl) (hsp.trans he.symm) p1 p2)
          have F5 : Hid (Fr (fun j => R ≤ j) w w5) := hid (F4.out.trans (p4.mono (fun j _ h => by
            have := (S4'.out.hown.lt hb rfl).1
            omega)))
          clear p1 p2 p3 p4
          go_wp2_with fail
          refine bodyPost_ret (results_none rfl _ _ _) rfl ?_
          exact ⟨rfl, _, qv, _, _, q, _, H', S5.out, I5.out, F5.out⟩
        · have ht : ((m : Int) + 1 == 1) = false := by simp; omega
          have I2 := hid (I0.out.more (y := (x.1, rv', x.2.2 ++ [k])) hx (fun e => hne (by rw [Hm.out, e]; rfl)) rfl rfl (hsp.trans he.symm))
          go_wp2_with fail
          refine bodyPost_ret (results_none rfl _ _ _) rfl ?_
          exact ⟨rfl, rc1, qv, _, hv, q, _, H, S2.out, I2.out, F2.out⟩
      · have he' : (x.1 == span) = false := by simp [he]
        go_wp2_with fail
        go_roundw
        case rel => exact ⟨i + 1, by omega, by go_num, trivial⟩
        case measure => simp [intOf]; omega
    · have hqk : q.length ≤ 600 := by
        have hp := I0.out.perm.length_eq
        rw [List.length_append, List.length_range] at hp
        omega
      have SD := hid (S1.out.fr ((Fr.refl (fun _ => False) wr).drew))
      have HC := hid (push_any A ab R R k q qv rc1 wr.drew SD.out.run SD.out.ok.c5 SD.out.qown I0.out.heapQ hqk (by show R ≤ wr.heap.size; omega))
      have BX := hid (And.intro b0 (And.intro b1 b2))
      have nbx : Hid (¬ (w.heap.size = R ∨ qv.ownBlock = some w.heap.size)) := hid (fun h => by
        rcases h with h | h
        · omega
        · have := QL.out _ h
          omega)
      have BK : Hid (∀ W, Fr (fun j => j = R ∨ qv.ownBlock = some j) wr.drew W → W.cell? ⟨w.heap.size, 0, none⟩ = some (.int .i64 (A k)) ∧ W.cell? ⟨w.heap.size, 1, none⟩ = some (.int .u64 ((k : Int) + 1)) ∧ W.cell? ⟨w.heap.size, 2, none⟩ = some (.iface 102 (.pointer (some ⟨ab k, 0, none⟩)))) := hid (fun W f => ⟨cell_frS (w := wr.drew) b0 f nbx.out, cell_frS (w := wr.drew) b1 f nbx.out, cell_frS (w := wr.drew) b2 f nbx.out⟩)
      have ii : ¬ (i : Int) < (Ls.length : Int) := by omega
      go_wp2_with fail
      go_region_held3 (fun W => W.cell? ⟨w.heap.size, 0, none⟩ = some (.int .i64 (A k)) ∧ W.cell? ⟨w.heap.size, 1, none⟩ = some (.int .u64 ((k : Int) + 1)) ∧ W.cell? ⟨w.heap.size, 2, none⟩ = some (.iface 102 (.pointer (some ⟨ab k, 0, none⟩)))) (first | exact BX.out | exact BK.out _ (by obtain ⟨_, _, _, _, _, _, _, _, hf⟩ := ‹_›; exact hf)) ((go_at_call 23; refine HC.out.mono ?_; rintro e w2 ⟨rfl, hw2⟩))
      obtain ⟨g, cap, q', p1, p2, p3, p4, p5, p6⟩ := hw2
      have S2 := hid (SD.out.queue p3 p4 p5 p6)
      have I2 := hid (I0.out.queue p1 p2)
      have F2 : Hid (Fr (fun j => R ≤ j) w w2) := hid (F1.out.drew.trans (p6.mono (fun j _ h => by
        rcases h with h | h
        · omega
        · exact (SD.out.qown.lt j h).1)))
      have HS := hid (seen_any R R span since _ _ _ hv (k + 1) Ls w2 S2.out.run S2.out.ok S2.out.lown few (by have := lt_of_block S2.out.run; omega) hs1 hs2)
      clear p1 p2 p3 p4 p5 p6 HC BX BK nbx b0 b1 b2 c9
      go_wp2_with fail
      refine HS.out.mono ?_
      rintro e w3 ⟨rfl, hw3⟩
      obtain ⟨rc3, lv3, Ls3, S3, hL, F3⟩ := S2.out.seen hw3
      have S3' := hid S3
      have F3' := hid (F2.out.trans F3)
      have I3 : Hid (Inv A sp (k + 1) q' Ls3 H) := hid (by
        rcases hL with rfl | ⟨rfl, h8⟩
        · exact I2.out
        · exact I2.out.newLane _ rfl h8)
      clear hw3 S3 F3 hL
      go_wp2_with fail
      go_end0
      exact ⟨rfl, rc3, _, lv3, hv, q', Ls3, H, S3'.out, I3.out, F3'.out⟩
end Go.Proofs.Ybulkanyc
