/-
  math/big.addVW, x lying in another row than z.
-/
import Derived.Test.YbulkanxoAddVW
namespace Go.Proofs.Ybulkanxo
open Go.RowKit
set_option linter.unusedVariables false

/-- The rest copied over, x lying elsewhere. -/
theorem copy_rest {w W : World} {gz gx o i k kz kx : Nat} {cz cx rs : List Nat} (hne : gz ≠ gx) (hz : w.heap[gz]? = some (row cz)) (hx : w.heap[gx]? = some (row cx)) (hf : Fr (· = gz) w W)
    (hr : W.heap[gz]? = some (row (mid cz rs o i))) (hl1 : rs.length = i) (hlz : o + k ≤ cz.length) (hlx : o + k ≤ cx.length) (hi : i < k) :
    (Builtin.copy_ #[34, 34] 3 #[.slice (some ⟨gz, o + i, none⟩) (k - i) (kz - i), .slice (some ⟨gx, o + i, none⟩) (k - i) (kx - i)]).run Yba.prog W =
      .ok (goInt (k - i : Nat)) (putW W gz (mid cz (rs ++ (seg cx o k).drop i) o k)) := by
  have lx := seg_length hlx
  have hx' : W.heap[gx]? = some (row cx) := (hf.block gx (lt_of_block hx) (fun e => hne e.symm)).trans hx
  have hd : ((seg cx o k).drop i).length = k - i := by simp [lx]
  have := copy_words 34 34 3 Yba.underlying34 W gz (o + i) (k - i) (kz - i) gx (o + i) (k - i) (kx - i) (mid cz rs o i) ((seg cx o k).drop i) hr
    (by rw [hd]; simp) (fun j hj => by
      rw [hd] at hj
      rw [row_cell hx' (by omega)]
      simp only [List.getD, List.getElem?_drop]
      have e := seg_getD (cx := cx) (o := o) (k := k) (i := i + j) (by omega)
      simp only [List.getD] at e
      rw [e, Nat.add_assoc]) (by rw [hd, mid_length hl1 (by omega)]; omega)
  rw [this, copy_mid hl1 lx (by omega) hlz, hd]

set_option maxHeartbeats 1000000 in
theorem addVW_diff (gz gx o k kz kx : Nat) (cz cx : List Nat) (y : Nat) (w : World) (hne : gz ≠ gx) (hz : w.heap[gz]? = some (row cz)) (hx : w.heap[gx]? = some (row cx)) (hl : o + k ≤ cz.length) (hlx : o + k ≤ cx.length) (h1 : 1 ≤ k) (hkz : k < kz) (hkx : k ≤ kx) (hk : k ≤ 1000) (bc : Words cx) (hy : y ≤ 1) :
    Calls Yba.prog 50 #[.slice (some ⟨gz, o, none⟩) k kz, .slice (some ⟨gx, o, none⟩) k kx, .int .u64 (y : Int)] w fun e w' => VWOut w w' gz o k cz (AddP (seg cx o k) k y) e := by
  have lx := seg_length hlx
  have bx := bc.seg o k
  obtain ⟨x0, hx0⟩ : ∃ x, x = cx.getD o 0 := ⟨_, rfl⟩
  have e0 : x0 = (seg cx o k).getD 0 0 := by rw [seg_getD (by omega), hx0]; rfl
  have c0 : w.cell? ⟨gx, o, none⟩ = some (.int .u64 (x0 : Int)) := by rw [hx0]; exact row_cell hx (by omega)
  obtain ⟨z0, cz0⟩ : ∃ z : Nat, w.cell? ⟨gz, o, none⟩ = some (.int .u64 (z : Int)) := ⟨_, row_cell hz (by omega)⟩
  have f0 : w.frozen? ⟨gz, o, none⟩ = false := row_free hz
  have bx0 : x0 < B := by rw [hx0]; exact bc.getD o
  have hk0 : 0 < k := h1
  have hp : ∀ (wx : World) n, wx.heap[gz]? = some (row n) → wx.heap[gx]? = some (row cx) → (binOp .neq 80 (.pointer (some ⟨gz, o, none⟩)) (.pointer (some ⟨gx, o, none⟩))).run Yba.prog wx = .ok (.bool true) wx := fun wx n a b => neq_words wx gz gx o o n cx hne a b
  have HN := hid hne
  have H0 := hid hx0
  have E0 := hid e0
  have LX := hid lx
  have HP := hid hp
  clear hx0 e0 lx hne hp
  by_cases hc : x0 + y < B
  · obtain ⟨s, hs⟩ : ∃ s, s = x0 + y := ⟨_, rfl⟩
    have hd : ((x0 : Int) + y) / 18446744073709551616 = 0 := by unfold B at hc; omega
    have hm : ((x0 : Int) + y) % 18446744073709551616 = (s : Int) := by unfold B at hc; omega
    have HS := hid hs
    clear hs
    have hr := row_set (d := s) (i := o) hz
    have hm1 := mid_set (cz := cz) (rs := []) (o := o) (i := 0) (d := s) rfl (by omega)
    rw [mid_nil, Nat.add_zero, List.nil_append, Nat.zero_add] at hm1
    rw [hm1] at hr
    have hf1 : Fr (· = gz) w (w.setCell ⟨gz, o, none⟩ (.int .u64 (s : Int))) := (Fr.refl (· = gz) _).setCell (ad := ⟨gz, o, none⟩) (fun _ => rfl) _
    have hx1 : (w.setCell ⟨gz, o, none⟩ (.int .u64 (s : Int))).heap[gx]? = some (row cx) := (hf1.block gx (lt_of_block hx) (fun e => HN.out e.symm)).trans hx
    have hp1 : ∀ n, (binOp .neq 80 (.pointer (some ⟨gz, o, none⟩)) (.pointer (some ⟨gx, o, none⟩))).run Yba.prog ((w.setCell ⟨gz, o, none⟩ (.int .u64 (s : Int))).drewN n) = .ok (.bool true) ((w.setCell ⟨gz, o, none⟩ (.int .u64 (s : Int))).drewN n) := fun n => HP.out _ _ hr hx1
    have HR := hid hr
    have HX1 := hid hx1
    clear hr hx1 hm1
    by_cases hk1 : 1 < k
    · have hcp := fun n => copy_rest (W := (w.setCell ⟨gz, o, none⟩ (.int .u64 (s : Int))).drewN n) (kz := kz) (kx := kx) (k := k) HN.out hz hx (hf1.drewN n) HR.out rfl hl hlx hk1
      have hkz1 : ¬ kz = 1 := by omega
      have hkx1 : ¬ kx = 1 := by omega
      obtain ⟨L, hL⟩ : ∃ L, L = mid cz ([s] ++ (seg cx o k).drop 1) o k := ⟨_, rfl⟩
      rw [← hL] at hcp
      have HL := hid hL
      clear hL
      go_enter Yba.func50, Yba.ntmps50
      go_wp2_with (go_at_call 51; refine (flip (bits_add _ _ _ (by omega) (by omega) (by omega) (by omega) _)).mono ?_; rintro e w' ⟨rfl, rfl⟩)
      go_quiet (fail)
      go_wp2
      go_region
      all_goals go_wp2
      go_ret
      have hs := HS.out
      refine out_done rfl LX.out bx (i := 1) (rs := [s]) h1 rfl (by intro d h; simp at h; omega) (by rw [hs]; exact first_done _ _ _ (by rw [LX.out]; omega) E0.out) ?_ ?_
      · rw [← HL.out]; exact putW_at (w := (w.setCell ⟨gz, o, none⟩ (.int .u64 (s : Int))).drewN _) HR.out
      · exact (hf1.drewN _).putW (fun _ => rfl) _
    · obtain rfl : k = 1 := by omega
      have hcp : ∀ wx d a dc sc, (Builtin.copy_ #[34, 34] 3 #[.slice d 0 dc, .slice a 0 sc]).run Yba.prog wx = .ok (goInt 0) wx := fun wx d a dc sc => copy_nothing 34 34 3 Yba.underlying34 wx d a 0 dc 0 sc rfl
      go_enter Yba.func50, Yba.ntmps50
      go_wp2_with (go_at_call 51; refine (flip (bits_add _ _ _ (by omega) (by omega) (by omega) (by omega) _)).mono ?_; rintro e w' ⟨rfl, rfl⟩)
      go_quiet (fail)
      go_wp2
      go_region
      all_goals go_wp2
      all_goals
        go_ret
        have hs := HS.out
        refine out_done rfl LX.out bx (i := 1) (rs := [s]) h1 rfl (by intro d h; simp at h; omega) (by rw [hs]; exact first_done _ _ _ (by rw [LX.out]; omega) E0.out) ?_ ?_
        · rw [List.drop_of_length_le (by rw [LX.out]; omega), List.append_nil]; exact HR.out
        · exact hf1.drewN _
  · obtain ⟨s, hs⟩ : ∃ s, s = x0 + y - B := ⟨_, rfl⟩
    have hd : ((x0 : Int) + y) / 18446744073709551616 = 1 := by unfold B at hc bx0; omega
    have hm : ((x0 : Int) + y) % 18446744073709551616 = (s : Int) := by unfold B at hc bx0 hs; omega
    have HS := hid hs
    clear hs
    go_enter Yba.func50, Yba.ntmps50
    go_wp2_with (go_at_call 51; refine (flip (bits_add _ _ _ (by omega) (by omega) (by omega) (by omega) _)).mono ?_; rintro e w' ⟨rfl, rfl⟩)
    go_loopw [9] (fun t wr => ∃ (i : Nat) (rs : List Nat), 1 ≤ i ∧ i ≤ k ∧ t = .int .i64 i ∧ Hid (rs.length = i) ∧ Words rs ∧ Hid (val rs + B ^ i = val ((seg cx o k).take i) + y) ∧ Hid (wr.heap[gz]? = some (row (mid cz rs o i))) ∧ Fr (· = gz) w wr)
      (fun t _ => k - (intOf t).toNat)
    case atStart =>
      have hs := HS.out
      have hr := row_set (d := s) (i := o) hz
      have hm1 := mid_set (cz := cz) (rs := []) (o := o) (i := 0) (d := s) rfl (by omega)
      rw [mid_nil, Nat.add_zero, List.nil_append] at hm1
      rw [hm1] at hr
      exact ⟨1, [s], by omega, h1, rfl, hid rfl, by intro d h; simp at h; omega, hid (first_carry _ x0 y s (by rw [LX.out]; omega) E0.out (by omega)), hid hr, (Fr.refl (· = gz) _).setCell (ad := ⟨gz, o, none⟩) (fun _ => rfl) _⟩
    case round =>
      obtain ⟨i, rs, hi1, hik, rfl, hl1, hrs, hv, hr, hf⟩ := hrel
      by_cases hlt : i < k
      · obtain ⟨xi, hxi⟩ : ∃ x, x = cx.getD (o + i) 0 := ⟨_, rfl⟩
        have ci : wr.cell? ⟨gx, o + i, none⟩ = some (.int .u64 (xi : Int)) := by rw [hxi]; exact read_off hz hx hr.out hl1.out hf (by omega)
        obtain ⟨zi, czi⟩ : ∃ z : Nat, wr.cell? ⟨gz, o + i, none⟩ = some (.int .u64 (z : Int)) := ⟨_, row_cell hr.out (by rw [mid_length hl1.out (by omega)]; omega)⟩
        have fi : wr.frozen? ⟨gz, o + i, none⟩ = false := row_free hr.out
        have bxi : xi < B := by rw [hxi]; exact bc.getD _
        have EI : Hid (xi = (seg cx o k).getD i 0) := hid (by rw [seg_getD hlt, hxi])
        clear hxi
        by_cases hmax : xi + 1 = B
        · have hb : ((xi : Int) != 18446744073709551615) = false := by unfold B at hmax; simp; omega
          have HM := hid hmax
          clear hmax
          go_wp2
          go_roundw
          case rel =>
            have hr' := row_set (d := 0) (i := o + i) hr.out
            rw [mid_set hl1.out (by omega)] at hr'
            exact ⟨i + 1, rs ++ [0], by omega, by omega, by go_num, hid (by simp [hl1.out]), hrs.snoc B_pos, hid (next_carry _ rs i y xi (by rw [LX.out]; omega) EI.out hl1.out HM.out hv.out), hid hr', hf.setCell (ad := ⟨gz, o + i, none⟩) (fun _ => rfl) _⟩
          case measure => simp [intOf]; omega
        · have hb : ((xi : Int) != 18446744073709551615) = true := by unfold B at hmax; simp; omega
          have hlt2 : (xi : Int) < 18446744073709551615 := by unfold B at hmax bxi; omega
          obtain ⟨t, ht⟩ : ∃ t : Nat, t = xi + 1 := ⟨_, rfl⟩
          have ht' : (xi : Int) + 1 = (t : Int) := by omega
          have hr' := row_set (d := t) (i := o + i) hr.out
          rw [mid_set hl1.out (by omega)] at hr'
          have hf1 : Fr (· = gz) w (wr.setCell ⟨gz, o + i, none⟩ (.int .u64 (t : Int))) := hf.setCell (ad := ⟨gz, o + i, none⟩) (fun _ => rfl) _
          have hx1 : (wr.setCell ⟨gz, o + i, none⟩ (.int .u64 (t : Int))).heap[gx]? = some (row cx) := (hf1.block gx (lt_of_block hx) (fun e => HN.out e.symm)).trans hx
          have hp1 : ∀ n, (binOp .neq 80 (.pointer (some ⟨gz, o, none⟩)) (.pointer (some ⟨gx, o, none⟩))).run Yba.prog ((wr.setCell ⟨gz, o + i, none⟩ (.int .u64 (t : Int))).drewN n) = .ok (.bool true) ((wr.setCell ⟨gz, o + i, none⟩ (.int .u64 (t : Int))).drewN n) := fun n => HP.out _ _ hr' hx1
          have HT := hid ht
          have HR := hid hr'
          clear hr' hx1 ht hmax
          by_cases hk1 : i + 1 < k
          · have hcp := fun n => copy_rest (W := (wr.setCell ⟨gz, o + i, none⟩ (.int .u64 (t : Int))).drewN n) (kz := kz) (kx := kx) (k := k) HN.out hz hx (hf1.drewN n) HR.out (by simp [hl1.out]) hl hlx hk1
            have hkz1 : ¬ kz = i + 1 := by omega
            have hkx1 : ¬ kx = i + 1 := by omega
            obtain ⟨L, hL⟩ : ∃ L, L = mid cz (rs ++ [t] ++ (seg cx o k).drop (i + 1)) o k := ⟨_, rfl⟩
            rw [← hL] at hcp
            have HL := hid hL
            clear hL
            go_wp2
            go_quiet (fail)
            go_wp2
            go_region
            all_goals go_wp2
            go_ret
            have hs := HT.out
            refine out_done rfl LX.out bx (i := i + 1) (rs := rs ++ [t]) (by omega) (by simp [hl1.out]) (hrs.snoc (by unfold B; omega)) (by rw [hs]; exact next_done _ rs i y xi (by rw [LX.out]; omega) EI.out hl1.out hv.out) ?_ ?_
            · rw [← HL.out]; exact putW_at (w := (wr.setCell ⟨gz, o + i, none⟩ (.int .u64 (t : Int))).drewN _) HR.out
            · exact (hf1.drewN _).putW (fun _ => rfl) _
          · have hlen : k - (i + 1) = 0 := by omega
            have hle : k ≤ i + 1 := by omega
            have hcp : ∀ wx d a dc sc, (Builtin.copy_ #[34, 34] 3 #[.slice d 0 dc, .slice a 0 sc]).run Yba.prog wx = .ok (goInt 0) wx := fun wx d a dc sc => copy_nothing 34 34 3 Yba.underlying34 wx d a 0 dc 0 sc rfl
            have hkz1 : ¬ kz = i + 1 := by omega
            by_cases hkx1 : kx = i + 1
            · subst hkx1
              go_wp2
              go_quiet (fail)
              go_wp2
              go_region
              all_goals go_wp2
              go_ret
              have hs := HT.out
              refine out_done rfl LX.out bx (i := i + 1) (rs := rs ++ [t]) (by omega) (by simp [hl1.out]) (hrs.snoc (by unfold B; omega)) (by rw [hs]; exact next_done _ rs i y xi (by rw [LX.out]; omega) EI.out hl1.out hv.out) ?_ ?_
              · rw [List.drop_of_length_le (by rw [LX.out]; omega), List.append_nil]
                have ek : i + 1 = k := by omega
                rw [← ek]; exact HR.out
              · exact hf1.drewN _
            · go_wp2
              go_quiet (fail)
              go_wp2
              go_region
              all_goals go_wp2
              go_ret
              have hs := HT.out
              refine out_done rfl LX.out bx (i := i + 1) (rs := rs ++ [t]) (by omega) (by simp [hl1.out]) (hrs.snoc (by unfold B; omega)) (by rw [hs]; exact next_done _ rs i y xi (by rw [LX.out]; omega) EI.out hl1.out hv.out) ?_ ?_
              · rw [List.drop_of_length_le (by rw [LX.out]; omega), List.append_nil]
                have ek : i + 1 = k := by omega
                rw [← ek]; exact HR.out
              · exact hf1.drewN _
      · obtain rfl : i = k := by omega
        go_wp2
        go_ret
        refine ⟨rs, 1, rfl, hl1.out, hrs, by omega, ?_, hr.out, hf⟩
        have := hv.out
        rw [List.take_of_length_le (by rw [LX.out]; omega)] at this
        show _ = _
        rw [Nat.mul_one]
        exact this
end Go.Proofs.Ybulkanxo
