/-
  math/big.addVW: a carry added to the words of a number from an offset on.
-/
import Derived.Test.YbulkanxoPtr
namespace Go.Proofs.Ybulkanxo
open Go.RowKit
set_option linter.unusedVariables false

/-- The k words of a row from o on. -/
def seg (cx : List Nat) (o k : Nat) : List Nat := (cx.drop o).take k
theorem seg_length {cx : List Nat} {o k : Nat} (h : o + k ≤ cx.length) : (seg cx o k).length = k := by simp [seg]; omega
theorem seg_getD {cx : List Nat} {o k i : Nat} (h : i < k) : (seg cx o k).getD i 0 = cx.getD (o + i) 0 := by simp [seg, List.getD, h]
theorem Words.seg {cx : List Nat} (h : Words cx) (o k : Nat) : Words (seg cx o k) := (h.drop o).take k

/-- z's row while its first i words from o on are written. -/
def mid (cz rs : List Nat) (o i : Nat) : List Nat := cz.take o ++ (rs ++ cz.drop (o + i))
theorem mid_nil (cz : List Nat) (o : Nat) : mid cz [] o 0 = cz := by simp [mid]
theorem mid_length {cz rs : List Nat} {o i : Nat} (h : rs.length = i) (hl : o + i ≤ cz.length) : (mid cz rs o i).length = cz.length := by simp [mid, h]; omega
theorem mid_set {cz rs : List Nat} {o i d : Nat} (h : rs.length = i) (hl : o + i < cz.length) : (mid cz rs o i).set (o + i) d = mid cz (rs ++ [d]) o (i + 1) := by
  unfold mid
  have e1 : (cz.take o).length = o := by simp; omega
  rw [List.set_append_right _ _ (by omega), e1, Nat.add_sub_cancel_left]
  have := take_append_drop_step rs (cz.drop o) i d h (by simp; omega)
  rw [List.drop_drop, List.drop_drop] at this
  rw [this]
theorem mid_getD {cz rs : List Nat} {o i : Nat} (h : rs.length = i) (hl : o + i < cz.length) : (mid cz rs o i).getD (o + i) 0 = cz.getD (o + i) 0 := by
  unfold mid
  have e1 : (cz.take o).length = o := by simp; omega
  simp only [List.getD]
  rw [List.getElem?_append_right (by omega), e1, Nat.add_sub_cancel_left, List.getElem?_append_right (by omega), h, Nat.sub_self]
  simp

theorem read_off {w wr : World} {gz gx o i : Nat} {cz cx rs : List Nat} (hz : w.heap[gz]? = some (row cz)) (hx : w.heap[gx]? = some (row cx))
    (hr : wr.heap[gz]? = some (row (mid cz rs o i))) (hl : rs.length = i) (hf : Fr (· = gz) w wr) (hi : o + i < cx.length) : wr.cell? ⟨gx, o + i, none⟩ = some (.int .u64 (cx.getD (o + i) 0 : Nat)) := by
  by_cases e : gx = gz
  · subst e
    have ec : cx = cz := row_inj (Option.some.inj (hx.symm.trans hz))
    subst ec
    rw [row_cell hr (by rw [mid_length hl (by omega)]; omega), mid_getD hl hi]
  · have : wr.heap[gx]? = some (row cx) := (hf.block gx (lt_of_block hx) e).trans hx
    exact row_cell this hi

/-- What a vector-by-word function leaves: 'tot' is what the words and the carry make up. -/
def VWOut (w w' : World) (gz o k : Nat) (cz : List Nat) (P : List Nat → Nat → Prop) (e : Ending) : Prop :=
  ∃ (rs : List Nat) (c : Nat), e = .returned (.int .u64 (c : Int)) ∧ rs.length = k ∧ Words rs ∧ c ≤ 1 ∧ P rs c ∧ w'.heap[gz]? = some (row (mid cz rs o k)) ∧ Fr (· = gz) w w'

theorem copy_mid {cz rs xs : List Nat} {o i k : Nat} (h : rs.length = i) (hx : xs.length = k) (hi : i ≤ k) (hl : o + k ≤ cz.length) :
    (mid cz rs o i).take (o + i) ++ xs.drop i ++ (mid cz rs o i).drop (o + i + (xs.drop i).length) = mid cz (rs ++ xs.drop i) o k := by
  have e1 : (cz.take o).length = o := by simp; omega
  have e2 : (xs.drop i).length = k - i := by simp [hx]
  unfold mid
  rw [e2]
  have t1 : (cz.take o ++ (rs ++ cz.drop (o + i))).take (o + i) = cz.take o ++ rs := by
    rw [List.take_append, e1, Nat.add_sub_cancel_left, List.take_append, h, Nat.sub_self, List.take_of_length_le (l := cz.take o) (by omega), List.take_of_length_le (l := rs) (by omega)]
    simp
  have t2 : (cz.take o ++ (rs ++ cz.drop (o + i))).drop (o + i + (k - i)) = cz.drop (o + k) := by
    rw [List.drop_append, e1, List.drop_of_length_le (l := cz.take o) (by omega), List.drop_append, h, List.drop_of_length_le (l := rs) (by omega), List.drop_drop]
    simp
    congr 1
    omega
  rw [t1, t2]
  simp
/-- In place the rest is there already. -/
theorem mid_same {cz rs : List Nat} {o i k : Nat} (hi : i ≤ k) : mid cz rs o i = mid cz (rs ++ (seg cz o k).drop i) o k := by
  unfold mid seg
  rw [List.append_assoc, List.drop_take]
  congr 2
  rw [List.drop_drop]
  have : cz.drop (o + k) = (cz.drop (o + i)).drop (k - i) := by rw [List.drop_drop]; congr 1; omega
  rw [this, List.take_append_drop]

theorem val_split (xs : List Nat) (i : Nat) (h : i ≤ xs.length) : val xs = val (xs.take i) + B ^ i * val (xs.drop i) := by
  have := val_append (xs.take i) (xs.drop i)
  rw [List.take_append_drop, List.length_take, Nat.min_eq_left h] at this
  exact this
theorem add_done (xs rs : List Nat) (i y : Nat) (h : rs.length = i) (hi : i ≤ xs.length) (hv : val rs = val (xs.take i) + y) : val (rs ++ xs.drop i) + B ^ xs.length * 0 = val xs + y := by
  rw [val_append, h, hv, val_split xs i hi]; omega

/-! ### what a round leaves: lemmas outside the walk -/
/-- The sum's equation. -/
def AddP (xs : List Nat) (k y : Nat) (rs : List Nat) (c : Nat) : Prop := val rs + B ^ k * c = val xs + y
theorem first_done (xs : List Nat) (x0 y : Nat) (h0 : 0 < xs.length) (hx : x0 = xs.getD 0 0) : val [x0 + y] = val (xs.take 1) + y := by
  rw [val_take_succ xs 0 h0, ← hx]; simp [val]
theorem first_carry (xs : List Nat) (x0 y d : Nat) (h0 : 0 < xs.length) (hx : x0 = xs.getD 0 0) (hd : d + B = x0 + y) : val [d] + B ^ 1 = val (xs.take 1) + y := by
  rw [val_take_succ xs 0 h0, ← hx]; simp [val]; omega
theorem next_carry (xs rs : List Nat) (i y xi : Nat) (hi : i < xs.length) (hx : xi = xs.getD i 0) (h : rs.length = i) (hm : xi + 1 = B) (hv : val rs + B ^ i = val (xs.take i) + y) : val (rs ++ [0]) + B ^ (i + 1) = val (xs.take (i + 1)) + y := by
  have e : B ^ i * (xi + 1) = B ^ i * B := by rw [hm]
  rw [Nat.mul_add, Nat.mul_one] at e
  rw [val_take_succ xs i hi, ← hx, val_snoc, Nat.pow_succ]; omega
theorem next_done (xs rs : List Nat) (i y xi : Nat) (hi : i < xs.length) (hx : xi = xs.getD i 0) (h : rs.length = i) (hv : val rs + B ^ i = val (xs.take i) + y) : val (rs ++ [xi + 1]) = val (xs.take (i + 1)) + y := by
  rw [val_take_succ xs i hi, ← hx, val_snoc, h, Nat.mul_add]; omega

theorem out_done {w w' : World} {gz o k : Nat} {cz xs rs : List Nat} {y i : Nat} {e : Ending} (he : e = .returned (.int .u64 0)) (hx : xs.length = k) (bx : Words xs) (hi : i ≤ k) (hl : rs.length = i) (hw : Words rs)
    (hv : val rs = val (xs.take i) + y) (hr : w'.heap[gz]? = some (row (mid cz (rs ++ xs.drop i) o k))) (hf : Fr (· = gz) w w') : VWOut w w' gz o k cz (AddP xs k y) e :=
  ⟨rs ++ xs.drop i, 0, he, by simp [hl, hx]; omega, hw.append (bx.drop i), by omega, by have := add_done xs rs i y hl (by omega) hv; rw [hx] at this; exact this, hr, hf⟩

/-- A contract that leaves the world alone, the equation turned round (so that 'rfl' keeps the caller's name of the world). -/
theorem flip {f : FuncId} {args : Array Value} {w : World} {v : Ending} (h : Calls Yba.prog f args w fun e w' => e = v ∧ w' = w) : Calls Yba.prog f args w fun e w' => v = e ∧ w = w' :=
  h.mono fun _ _ ⟨a, b⟩ => ⟨a.symm, b.symm⟩

set_option maxHeartbeats 1000000 in
theorem addVW_same (gz o k kz kx : Nat) (cz : List Nat) (y : Nat) (w : World) (hz : w.heap[gz]? = some (row cz)) (hl : o + k ≤ cz.length) (h1 : 1 ≤ k) (hkz : k ≤ kz) (hkx : k ≤ kx) (hk : k ≤ 1000) (bz : Words cz) (hy : y ≤ 1) :
    Calls Yba.prog 50 #[.slice (some ⟨gz, o, none⟩) k kz, .slice (some ⟨gz, o, none⟩) k kx, .int .u64 (y : Int)] w fun e w' => VWOut w w' gz o k cz (AddP (seg cz o k) k y) e := by
  have lx := seg_length hl
  have bx := bz.seg o k
  obtain ⟨x0, hx0⟩ : ∃ x, x = cz.getD o 0 := ⟨_, rfl⟩
  have e0 : x0 = (seg cz o k).getD 0 0 := by rw [seg_getD (by omega), hx0]; rfl
  have c0 : w.cell? ⟨gz, o, none⟩ = some (.int .u64 (x0 : Int)) := by rw [hx0]; exact row_cell hz (by omega)
  have f0 : w.frozen? ⟨gz, o, none⟩ = false := row_free hz
  have bx0 : x0 < B := by rw [hx0]; exact bz.getD o
  have hk0 : 0 < k := h1
  have hp : ∀ wx, (binOp .neq 80 (.pointer (some ⟨gz, o, none⟩)) (.pointer (some ⟨gz, o, none⟩))).run Yba.prog wx = .ok (.bool false) wx := fun wx => neq_same wx _
  have H0 := hid hx0
  have E0 := hid e0
  have LX := hid lx
  clear hx0 e0 lx
  by_cases hc : x0 + y < B
  · obtain ⟨s, hs⟩ : ∃ s, s = x0 + y := ⟨_, rfl⟩
    have hd : ((x0 : Int) + y) / 18446744073709551616 = 0 := by unfold B at hc; omega
    have hm : ((x0 : Int) + y) % 18446744073709551616 = (s : Int) := by unfold B at hc; omega
    have HS := hid hs
    clear hs
    go_enter Yba.func50, Yba.ntmps50
    go_wp2_with (go_at_call 51; refine (flip (bits_add _ _ _ (by omega) (by omega) (by omega) (by omega) _)).mono ?_; rintro e w' ⟨rfl, rfl⟩)
    go_quiet (fail)
    go_wp2
    go_ret
    have hr := row_set (d := s) (i := o) hz
    have hs := HS.out
    refine out_done rfl LX.out bx (i := 1) (rs := [s]) h1 rfl (by intro d h; simp at h; omega) (by rw [hs]; exact first_done _ _ _ (by rw [LX.out]; omega) E0.out) ?_ ?_
    · have := mid_set (cz := cz) (rs := []) (o := o) (i := 0) (d := s) rfl (by omega)
      rw [mid_nil, Nat.add_zero] at this
      rw [← mid_same (by omega), ← List.nil_append [s], ← this]
      exact hr
    · exact ((Fr.refl (· = gz) _).setCell (ad := ⟨gz, o, none⟩) (fun _ => rfl) _).drewN _
  · obtain ⟨s, hs⟩ : ∃ s, s = x0 + y - B := ⟨_, rfl⟩
    have hd : ((x0 : Int) + y) / 18446744073709551616 = 1 := by unfold B at hc bx0; omega
    have hm : ((x0 : Int) + y) % 18446744073709551616 = (s : Int) := by unfold B at hc bx0 hs; omega
    have HS := hid hs
    clear hs
    go_enter Yba.func50, Yba.ntmps50
    go_wp2_with (go_at_call 51; refine (flip (bits_add _ _ _ (by omega) (by omega) (by omega) (by omega) _)).mono ?_; rintro e w' ⟨rfl, rfl⟩)
    go_loopw [9] (fun t wr => ∃ (i : Nat) (rs : List Nat), 1 ≤ i ∧ i ≤ k ∧ t = .int .i64 i ∧ Hid (rs.length = i) ∧ Words rs ∧ Hid (val rs + B ^ i = val ((seg cz o k).take i) + y) ∧ Hid (wr.heap[gz]? = some (row (mid cz rs o i))) ∧ Fr (· = gz) w wr)
      (fun t _ => k - (intOf t).toNat)
    case atStart =>
      have hs := HS.out
      have hr := row_set (d := s) (i := o) hz
      have hm1 := mid_set (cz := cz) (rs := []) (o := o) (i := 0) (d := s) rfl (by omega)
      rw [mid_nil, Nat.add_zero, List.nil_append] at hm1
      rw [hm1] at hr
      exact ⟨1, [s], by omega, h1, rfl, hid rfl, by intro d h; simp at h; omega, hid (first_carry _ x0 y s (by rw [LX.out]; omega) E0.out (by omega)), hid hr, (Fr.refl (· = gz) _).setCell (ad := ⟨gz, o, none⟩) (fun _ => rfl) _⟩
    case round =>
      obtain ⟨i, rs, hi1, hik, rfl, hl1, hrs, hv, hr, hf⟩ := hrel
      by_cases hlt : i < k
      · obtain ⟨xi, hxi⟩ : ∃ x, x = cz.getD (o + i) 0 := ⟨_, rfl⟩
        have ci : wr.cell? ⟨gz, o + i, none⟩ = some (.int .u64 (xi : Int)) := by rw [hxi]; exact read_off hz hz hr.out hl1.out hf (by omega)
        have fi : wr.frozen? ⟨gz, o + i, none⟩ = false := row_free hr.out
        have bxi : xi < B := by rw [hxi]; exact bz.getD _
        have EI : Hid (xi = (seg cz o k).getD i 0) := hid (by rw [seg_getD hlt, hxi])
        clear hxi
        by_cases hmax : xi + 1 = B
        · have hb : ((xi : Int) != 18446744073709551615) = false := by unfold B at hmax; simp; omega
          have HM := hid hmax
          clear hmax
          go_wp2
          go_roundw
          case rel =>
            have hr' := row_set (d := 0) (i := o + i) hr.out
            rw [mid_set hl1.out (by omega)] at hr'
            exact ⟨i + 1, rs ++ [0], by omega, by omega, by go_num, hid (by simp [hl1.out]), hrs.snoc B_pos, hid (next_carry _ rs i y xi (by rw [LX.out]; omega) EI.out hl1.out HM.out hv.out), hid hr', hf.setCell (ad := ⟨gz, o + i, none⟩) (fun _ => rfl) _⟩
          case measure => simp [intOf]; omega
        · have hb : ((xi : Int) != 18446744073709551615) = true := by unfold B at hmax; simp; omega
          have hlt2 : (xi : Int) < 18446744073709551615 := by unfold B at hmax bxi; omega
          go_wp2
          go_quiet (fail)
          go_wp2
          go_ret
          have hr' := row_set (d := xi + 1) (i := o + i) hr.out
          rw [mid_set hl1.out (by omega), mid_same (k := k) (by omega)] at hr'
          refine out_done rfl LX.out bx (i := i + 1) (rs := rs ++ [xi + 1]) (by omega) (by simp [hl1.out]) (hrs.snoc (by omega)) (next_done _ rs i y xi (by rw [LX.out]; omega) EI.out hl1.out hv.out) hr' ?_
          exact (hf.setCell (ad := ⟨gz, o + i, none⟩) (fun _ => rfl) _).drewN _
      · obtain rfl : i = k := by omega
        go_wp2
        go_ret
        refine ⟨rs, 1, rfl, hl1.out, hrs, by omega, ?_, hr.out, hf⟩
        have := hv.out
        rw [List.take_of_length_le (by rw [LX.out]; omega)] at this
        show _ = _
        rw [Nat.mul_one]
        exact this
end Go.Proofs.Ybulkanxo
