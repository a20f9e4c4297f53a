/-
  math/big.subVW, x lying in another row than z.
-/
import Derived.Test.YbulkanxoAddVWd
namespace Go.Proofs.Ybulkanxo
open Go.RowKit
set_option linter.unusedVariables false

/-- The difference's equation. -/
def SubP (xs : List Nat) (k y : Nat) (rs : List Nat) (c : Nat) : Prop := val rs + y = val xs + B ^ k * c
theorem sub_done (xs rs : List Nat) (i y : Nat) (h : rs.length = i) (hi : i ≤ xs.length) (hv : val rs + y = val (xs.take i)) : val (rs ++ xs.drop i) + y = val xs + B ^ xs.length * 0 := by
  rw [val_append, h, val_split xs i hi, ← hv]; omega
theorem first_done_s (xs : List Nat) (x0 y : Nat) (h0 : 0 < xs.length) (hx : x0 = xs.getD 0 0) (hy : y ≤ x0) : val [x0 - y] + y = val (xs.take 1) := by
  rw [val_take_succ xs 0 h0, ← hx]; simp [val]; omega
theorem first_carry_s (xs : List Nat) (x0 y d : Nat) (h0 : 0 < xs.length) (hx : x0 = xs.getD 0 0) (hd : d + y = x0 + B) : val [d] + y = val (xs.take 1) + B ^ 1 := by
  rw [val_take_succ xs 0 h0, ← hx]; simp [val]; omega
theorem next_carry_s (xs rs : List Nat) (i y : Nat) (hi : i < xs.length) (hx : xs.getD i 0 = 0) (h : rs.length = i) (hv : val rs + y = val (xs.take i) + B ^ i) : val (rs ++ [B - 1]) + y = val (xs.take (i + 1)) + B ^ (i + 1) := by
  have e : B ^ i * (B - 1 + 1) = B ^ i * B := by rw [Nat.sub_add_cancel B_pos]
  rw [Nat.mul_add, Nat.mul_one] at e
  rw [val_take_succ xs i hi, hx, val_snoc, Nat.pow_succ, h]; omega
theorem next_done_s (xs rs : List Nat) (i y xi : Nat) (hi : i < xs.length) (hx : xi = xs.getD i 0) (h0 : 0 < xi) (h : rs.length = i) (hv : val rs + y = val (xs.take i) + B ^ i) : val (rs ++ [xi - 1]) + y = val (xs.take (i + 1)) := by
  have e : B ^ i * (xi - 1 + 1) = B ^ i * xi := by rw [Nat.sub_add_cancel h0]
  rw [Nat.mul_add, Nat.mul_one] at e
  rw [val_take_succ xs i hi, ← hx, val_snoc, h]; omega
theorem out_done_s {w w' : World} {gz o k : Nat} {cz xs rs : List Nat} {y i : Nat} {e : Ending} (he : e = .returned (.int .u64 0)) (hx : xs.length = k) (bx : Words xs) (hi : i ≤ k) (hl : rs.length = i) (hw : Words rs)
    (hv : val rs + y = val (xs.take i)) (hr : w'.heap[gz]? = some (row (mid cz (rs ++ xs.drop i) o k))) (hf : Fr (· = gz) w w') : VWOut w w' gz o k cz (SubP xs k y) e :=
  ⟨rs ++ xs.drop i, 0, he, by simp [hl, hx]; omega, hw.append (bx.drop i), by omega, by have := sub_done xs rs i y hl (by omega) hv; rw [hx] at this; exact this, hr, hf⟩

set_option maxHeartbeats 1000000 in
theorem subVW_diff (gz gx o k kz kx : Nat) (cz cx : List Nat) (y : Nat) (w : World) (hne : gz ≠ gx) (hz : w.heap[gz]? = some (row cz)) (hx : w.heap[gx]? = some (row cx)) (hl : o + k ≤ cz.length) (hlx : o + k ≤ cx.length) (h1 : 1 ≤ k) (hkz : k < kz) (hkx : k ≤ kx) (hk : k ≤ 1000) (bc : Words cx) (hy : y ≤ 1) :
    Calls Yba.prog 53 #[.slice (some ⟨gz, o, none⟩) k kz, .slice (some ⟨gx, o, none⟩) k kx, .int .u64 (y : Int)] w fun e w' => VWOut w w' gz o k cz (SubP (seg cx o k) k y) e := by
  have lx := seg_length hlx
  have bx := bc.seg o k
  obtain ⟨x0, hx0⟩ : ∃ x, x = cx.getD o 0 := ⟨_, rfl⟩
  have e0 : x0 = (seg cx o k).getD 0 0 := by rw [seg_getD (by omega), hx0]; rfl
  have c0 : w.cell? ⟨gx, o, none⟩ = some (.int .u64 (x0 : Int)) := by rw [hx0]; exact row_cell hx (by omega)
  obtain ⟨z0, cz0⟩ : ∃ z : Nat, w.cell? ⟨gz, o, none⟩ = some (.int .u64 (z : Int)) := ⟨_, row_cell hz (by omega)⟩
  have f0 : w.frozen? ⟨gz, o, none⟩ = false := row_free hz
  have bx0 : x0 < B := by rw [hx0]; exact bc.getD o
  have hk0 : 0 < k := h1
  have hp : ∀ (wx : World) n, wx.heap[gz]? = some (row n) → wx.heap[gx]? = some (row cx) → (binOp .neq 80 (.pointer (some ⟨gz, o, none⟩)) (.pointer (some ⟨gx, o, none⟩))).run Yba.prog wx = .ok (.bool true) wx := fun wx n a b => neq_words wx gz gx o o n cx hne a b
  have HN := hid hne
  have H0 := hid hx0
  have E0 := hid e0
  have LX := hid lx
  have HP := hid hp
  clear hx0 e0 lx hne hp
  by_cases hc : y ≤ x0
  · obtain ⟨s, hs⟩ : ∃ s, s = x0 - y := ⟨_, rfl⟩
    have hd : bor (x0 : Int) (y : Int) = 0 := by unfold bor; rw [if_neg (by omega)]
    have hm : ((x0 : Int) - y) % 18446744073709551616 = (s : Int) := by unfold B at bx0; omega
    have bs : s < B := by omega
    have HS := hid hs
    clear hs
    have hr := row_set (d := s) (i := o) hz
    have hm1 := mid_set (cz := cz) (rs := []) (o := o) (i := 0) (d := s) rfl (by omega)
    rw [mid_nil, Nat.add_zero, List.nil_append, Nat.zero_add] at hm1
    rw [hm1] at hr
    have hf1 : Fr (· = gz) w (w.setCell ⟨gz, o, none⟩ (.int .u64 (s : Int))) := (Fr.refl (· = gz) _).setCell (ad := ⟨gz, o, none⟩) (fun _ => rfl) _
    have hx1 : (w.setCell ⟨gz, o, none⟩ (.int .u64 (s : Int))).heap[gx]? = some (row cx) := (hf1.block gx (lt_of_block hx) (fun e => HN.out e.symm)).trans hx
    have hp1 : ∀ n, (binOp .neq 80 (.pointer (some ⟨gz, o, none⟩)) (.pointer (some ⟨gx, o, none⟩))).run Yba.prog ((w.setCell ⟨gz, o, none⟩ (.int .u64 (s : Int))).drewN n) = .ok (.bool true) ((w.setCell ⟨gz, o, none⟩ (.int .u64 (s : Int))).drewN n) := fun n => HP.out _ _ hr hx1
    have HR := hid hr
    have HX1 := hid hx1
    clear hr hx1 hm1
    by_cases hk1 : 1 < k
    · have hcp := fun n => copy_rest (W := (w.setCell ⟨gz, o, none⟩ (.int .u64 (s : Int))).drewN n) (kz := kz) (kx := kx) (k := k) HN.out hz hx (hf1.drewN n) HR.out rfl hl hlx hk1
      have hkz1 : ¬ kz = 1 := by omega
      have hkx1 : ¬ kx = 1 := by omega
      obtain ⟨L, hL⟩ : ∃ L, L = mid cz ([s] ++ (seg cx o k).drop 1) o k := ⟨_, rfl⟩
      rw [← hL] at hcp
      have HL := hid hL
      clear hL
      go_enter Yba.func53, Yba.ntmps53
      go_wp2_with (go_at_call 54; refine (flip (bits_sub _ _ _ (by omega) (by omega) (by omega) (by omega) (by omega) _)).mono ?_; rintro e w' ⟨rfl, rfl⟩)
      go_quiet (fail)
      go_wp2
      go_region
      all_goals go_wp2
      go_ret
      have hs := HS.out
      refine out_done_s rfl LX.out bx (i := 1) (rs := [s]) h1 rfl (by intro d h; simp at h; rw [h]; exact bs) (by rw [hs]; exact first_done_s _ _ _ (by rw [LX.out]; omega) E0.out hc) ?_ ?_
      · rw [← HL.out]; exact putW_at (w := (w.setCell ⟨gz, o, none⟩ (.int .u64 (s : Int))).drewN _) HR.out
      · exact (hf1.drewN _).putW (fun _ => rfl) _
    · obtain rfl : k = 1 := by omega
      have hcp : ∀ wx d a dc sc, (Builtin.copy_ #[34, 34] 3 #[.slice d 0 dc, .slice a 0 sc]).run Yba.prog wx = .ok (goInt 0) wx := fun wx d a dc sc => copy_nothing 34 34 3 Yba.underlying34 wx d a 0 dc 0 sc rfl
      go_enter Yba.func53, Yba.ntmps53
      go_wp2_with (go_at_call 54; refine (flip (bits_sub _ _ _ (by omega) (by omega) (by omega) (by omega) (by omega) _)).mono ?_; rintro e w' ⟨rfl, rfl⟩)
      go_quiet (fail)
      go_wp2
      go_region
      all_goals go_wp2
      all_goals
        go_ret
        have hs := HS.out
        refine out_done_s rfl LX.out bx (i := 1) (rs := [s]) h1 rfl (by intro d h; simp at h; rw [h]; exact bs) (by rw [hs]; exact first_done_s _ _ _ (by rw [LX.out]; omega) E0.out hc) ?_ ?_
        · rw [List.drop_of_length_le (by rw [LX.out]; omega), List.append_nil]; exact HR.out
        · exact hf1.drewN _
  · obtain ⟨s, hs⟩ : ∃ s, s = x0 + B - y := ⟨_, rfl⟩
    have hd : bor (x0 : Int) (y : Int) = 1 := by unfold bor; rw [if_pos (by omega)]
    have hm : ((x0 : Int) - y) % 18446744073709551616 = (s : Int) := by unfold B at bx0 hs; omega
    have bs : s < B := by omega
    have HS := hid hs
    clear hs
    go_enter Yba.func53, Yba.ntmps53
    go_wp2_with (go_at_call 54; refine (flip (bits_sub _ _ _ (by omega) (by omega) (by omega) (by omega) (by omega) _)).mono ?_; rintro e w' ⟨rfl, rfl⟩)
    go_loopw [9] (fun t wr => ∃ (i : Nat) (rs : List Nat), 1 ≤ i ∧ i ≤ k ∧ t = .int .i64 i ∧ Hid (rs.length = i) ∧ Words rs ∧ Hid (val rs + y = val ((seg cx o k).take i) + B ^ i) ∧ Hid (wr.heap[gz]? = some (row (mid cz rs o i))) ∧ Fr (· = gz) w wr)
      (fun t _ => k - (intOf t).toNat)
    case atStart =>
      have hs := HS.out
      have hr := row_set (d := s) (i := o) hz
      have hm1 := mid_set (cz := cz) (rs := []) (o := o) (i := 0) (d := s) rfl (by omega)
      rw [mid_nil, Nat.add_zero, List.nil_append] at hm1
      rw [hm1] at hr
      exact ⟨1, [s], by omega, h1, rfl, hid rfl, by intro d h; simp at h; rw [h]; exact bs, hid (first_carry_s _ x0 y s (by rw [LX.out]; omega) E0.out (by omega)), hid hr, (Fr.refl (· = gz) _).setCell (ad := ⟨gz, o, none⟩) (fun _ => rfl) _⟩
    case round =>
      obtain ⟨i, rs, hi1, hik, rfl, hl1, hrs, hv, hr, hf⟩ := hrel
      by_cases hlt : i < k
      · obtain ⟨xi, hxi⟩ : ∃ x, x = cx.getD (o + i) 0 := ⟨_, rfl⟩
        have ci : wr.cell? ⟨gx, o + i, none⟩ = some (.int .u64 (xi : Int)) := by rw [hxi]; exact read_off hz hx hr.out hl1.out hf (by omega)
        obtain ⟨zi, czi⟩ : ∃ z : Nat, wr.cell? ⟨gz, o + i, none⟩ = some (.int .u64 (z : Int)) := ⟨_, row_cell hr.out (by rw [mid_length hl1.out (by omega)]; omega)⟩
        have fi : wr.frozen? ⟨gz, o + i, none⟩ = false := row_free hr.out
        have bxi : xi < B := by rw [hxi]; exact bc.getD _
        have EI : Hid (xi = (seg cx o k).getD i 0) := hid (by rw [seg_getD hlt, hxi])
        clear hxi
        by_cases hmax : xi = 0
        · have hb : ((xi : Int) != 0) = false := by simp; omega
          have HM := hid hmax
          clear hmax
          go_wp2
          go_roundw
          case rel =>
            have hr' := row_set (d := B - 1) (i := o + i) hr.out
            have e1 : ((B - 1 : Nat) : Int) = 18446744073709551615 := by unfold B; omega
            rw [mid_set hl1.out (by omega), e1] at hr'
            exact ⟨i + 1, rs ++ [B - 1], by omega, by omega, by go_num, hid (by simp [hl1.out]), hrs.snoc (Nat.sub_lt B_pos (by decide)), hid (next_carry_s _ rs i y (by rw [LX.out]; omega) (EI.out.symm.trans HM.out) hl1.out hv.out), hid hr', hf.setCell (ad := ⟨gz, o + i, none⟩) (fun _ => rfl) _⟩
          case measure => simp [intOf]; omega
        · have hb : ((xi : Int) != 0) = true := by simp; omega
          have hpos : 0 < xi := by omega
          have hlt2 : (xi : Int) < 18446744073709551616 := by unfold B at bxi; omega
          obtain ⟨t, ht⟩ : ∃ t : Nat, t = xi - 1 := ⟨_, rfl⟩
          have ht' : (xi : Int) - 1 = (t : Int) := by omega
          have bt : t < B := by omega
          have hr' := row_set (d := t) (i := o + i) hr.out
          rw [mid_set hl1.out (by omega)] at hr'
          have hf1 : Fr (· = gz) w (wr.setCell ⟨gz, o + i, none⟩ (.int .u64 (t : Int))) := hf.setCell (ad := ⟨gz, o + i, none⟩) (fun _ => rfl) _
          have hx1 : (wr.setCell ⟨gz, o + i, none⟩ (.int .u64 (t : Int))).heap[gx]? = some (row cx) := (hf1.block gx (lt_of_block hx) (fun e => HN.out e.symm)).trans hx
          have hp1 : ∀ n, (binOp .neq 80 (.pointer (some ⟨gz, o, none⟩)) (.pointer (some ⟨gx, o, none⟩))).run Yba.prog ((wr.setCell ⟨gz, o + i, none⟩ (.int .u64 (t : Int))).drewN n) = .ok (.bool true) ((wr.setCell ⟨gz, o + i, none⟩ (.int .u64 (t : Int))).drewN n) := fun n => HP.out _ _ hr' hx1
          have HT := hid ht
          have HR := hid hr'
          clear hr' hx1 ht hmax
          by_cases hk1 : i + 1 < k
          · have hcp := fun n => copy_rest (W := (wr.setCell ⟨gz, o + i, none⟩ (.int .u64 (t : Int))).drewN n) (kz := kz) (kx := kx) (k := k) HN.out hz hx (hf1.drewN n) HR.out (by simp [hl1.out]) hl hlx hk1
            have hkz1 : ¬ kz = i + 1 := by omega
            have hkx1 : ¬ kx = i + 1 := by omega
            obtain ⟨L, hL⟩ : ∃ L, L = mid cz (rs ++ [t] ++ (seg cx o k).drop (i + 1)) o k := ⟨_, rfl⟩
            rw [← hL] at hcp
            have HL := hid hL
            clear hL
            go_wp2
            go_quiet (fail)
            go_wp2
            go_region
            all_goals go_wp2
            go_ret
            have hs := HT.out
            refine out_done_s rfl LX.out bx (i := i + 1) (rs := rs ++ [t]) (by omega) (by simp [hl1.out]) (hrs.snoc bt) (by rw [hs]; exact next_done_s _ rs i y xi (by rw [LX.out]; omega) EI.out hpos hl1.out hv.out) ?_ ?_
            · rw [← HL.out]; exact putW_at (w := (wr.setCell ⟨gz, o + i, none⟩ (.int .u64 (t : Int))).drewN _) HR.out
            · exact (hf1.drewN _).putW (fun _ => rfl) _
          · have hlen : k - (i + 1) = 0 := by omega
            have hle : k ≤ i + 1 := by omega
            have hcp : ∀ wx d a dc sc, (Builtin.copy_ #[34, 34] 3 #[.slice d 0 dc, .slice a 0 sc]).run Yba.prog wx = .ok (goInt 0) wx := fun wx d a dc sc => copy_nothing 34 34 3 Yba.underlying34 wx d a 0 dc 0 sc rfl
            have hkz1 : ¬ kz = i + 1 := by omega
            by_cases hkx1 : kx = i + 1
            · subst hkx1
              go_wp2
              go_quiet (fail)
              go_wp2
              go_region
              all_goals go_wp2
              go_ret
              have hs := HT.out
              refine out_done_s rfl LX.out bx (i := i + 1) (rs := rs ++ [t]) (by omega) (by simp [hl1.out]) (hrs.snoc bt) (by rw [hs]; exact next_done_s _ rs i y xi (by rw [LX.out]; omega) EI.out hpos hl1.out hv.out) ?_ ?_
              · rw [List.drop_of_length_le (by rw [LX.out]; omega), List.append_nil]
                have ek : i + 1 = k := by omega
                rw [← ek]; exact HR.out
              · exact hf1.drewN _
            · go_wp2
              go_quiet (fail)
              go_wp2
              go_region
              all_goals go_wp2
              go_ret
              have hs := HT.out
              refine out_done_s rfl LX.out bx (i := i + 1) (rs := rs ++ [t]) (by omega) (by simp [hl1.out]) (hrs.snoc bt) (by rw [hs]; exact next_done_s _ rs i y xi (by rw [LX.out]; omega) EI.out hpos hl1.out hv.out) ?_ ?_
              · rw [List.drop_of_length_le (by rw [LX.out]; omega), List.append_nil]
                have ek : i + 1 = k := by omega
                rw [← ek]; exact HR.out
              · exact hf1.drewN _
      · obtain rfl : i = k := by omega
        go_wp2
        go_ret
        refine ⟨rs, 1, rfl, hl1.out, hrs, by omega, ?_, hr.out, hf⟩
        have := hv.out
        rw [List.take_of_length_le (by rw [LX.out]; omega)] at this
        show _ = _
        rw [Nat.mul_one]
        exact this
end Go.Proofs.Ybulkanxo
