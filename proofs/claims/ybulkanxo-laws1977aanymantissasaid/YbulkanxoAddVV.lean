/-
  math/big.addVV_g: the words of two numbers added into a third row, which may be one of the two.
-/
import Derived.Test.YbulkanxoBits
import Derived.Test.YbulkanxoNum
import Derived.BigQuiet
import Derived.Deep.QuietTactic
namespace Go.Proofs.Ybulkanxo
open Go.RowKit

/-- What index i of x reads while z's first i words are written, x being z or not. -/
theorem read_at {w wr : World} {gz gx i : Nat} {cz cx rs : List Nat} (hz : w.heap[gz]? = some (row cz)) (hx : w.heap[gx]? = some (row cx))
    (hr : wr.heap[gz]? = some (row (rs ++ cz.drop i))) (hl : rs.length = i) (hf : Fr (· = gz) w wr) (hi : i < cx.length) : wr.cell? ⟨gx, i, none⟩ = some (.int .u64 (cx.getD i 0 : Nat)) := by
  by_cases e : gx = gz
  · subst e
    have ec : cx = cz := row_inj (Option.some.inj (hx.symm.trans hz))
    subst ec
    rw [row_cell hr (by simp; omega)]
    subst hl
    simp [List.getD, List.getElem?_append_right]
  · have : wr.heap[gx]? = some (row cx) := (hf.block gx (lt_of_block hx) e).trans hx
    exact row_cell this hi

theorem cast_mod (x y c : Nat) : (((x : Int) + y + c) % 18446744073709551616) = (((x + y + c) % B : Nat) : Int) := by unfold B; omega
theorem cast_div (x y c : Nat) : (((x : Int) + y + c) / 18446744073709551616) = (((x + y + c) / B : Nat) : Int) := by unfold B; omega
/-- The round's step on the row and on the numbers. -/
theorem add_rel {w wr : World} {gz k n : Nat} {cz cx cy rs : List Nat} {x y cc : Nat} (hl : rs.length = k) (hrs : Words rs) (hv : val rs + B ^ k * cc = val (cx.take k) + val (cy.take k))
    (hr : wr.heap[gz]? = some (row (rs ++ cz.drop k))) (hf : Fr (· = gz) w wr) (hk : k < n) (lz : n ≤ cz.length) (lx : n ≤ cx.length) (ly : n ≤ cy.length)
    (hx : x = cx.getD k 0) (hy : y = cy.getD k 0) (bx : Words cx) (bY : Words cy) (hcc : cc ≤ 1) (nq : Nat) :
    (x + y + cc) / B ≤ 1 ∧ (rs ++ [(x + y + cc) % B]).length = k + 1 ∧ Words (rs ++ [(x + y + cc) % B]) ∧
      val (rs ++ [(x + y + cc) % B]) + B ^ (k + 1) * ((x + y + cc) / B) = val (cx.take (k + 1)) + val (cy.take (k + 1)) ∧
      ((wr.drewN nq).setCell ⟨gz, k, none⟩ (.int .u64 (((x : Int) + y + cc) % 18446744073709551616))).heap[gz]? = some (row ((rs ++ [(x + y + cc) % B]) ++ cz.drop (k + 1))) ∧
      Fr (· = gz) w ((wr.drewN nq).setCell ⟨gz, k, none⟩ (.int .u64 (((x : Int) + y + cc) % 18446744073709551616))) := by
  have bxk : x < B := by rw [hx]; exact bx.getD k
  have byk : y < B := by rw [hy]; exact bY.getD k
  refine ⟨?_, by simp [hl], hrs.snoc (Nat.mod_lt _ B_pos), ?_, ?_, (hf.drewN nq).setCell (fun _ => rfl) _⟩
  · have : x + y + cc < B * 2 := by omega
    have := Nat.div_lt_of_lt_mul this
    omega
  · rw [val_snoc, hl, val_take_succ cx k (by omega), val_take_succ cy k (by omega), ← hx, ← hy, Nat.pow_succ]
    exact sum_step _ x y cc _ _ _ hv
  · have h0 : (wr.drewN nq).heap[gz]? = some (row (rs ++ cz.drop k)) := hr
    rw [cast_mod, row_set h0, take_append_drop_step rs cz k _ hl (by omega)]

set_option maxHeartbeats 1000000 in
theorem addVV_any (gz gx gy n kz kx ky : Nat) (cz cx cy : List Nat) (w : World) (hz : w.heap[gz]? = some (row cz)) (hx : w.heap[gx]? = some (row cx)) (hy : w.heap[gy]? = some (row cy))
    (lz : n ≤ cz.length) (lx : n ≤ cx.length) (ly : n ≤ cy.length) (hn : n ≤ 1000) (bx : Words cx) (bY : Words cy) :
    Calls Yba.prog 19 #[.slice (some ⟨gz, 0, none⟩) n kz, .slice (some ⟨gx, 0, none⟩) n kx, .slice (some ⟨gy, 0, none⟩) n ky] w fun e w' =>
      ∃ (rs : List Nat) (c : Nat), e = .returned (.int .u64 (c : Int)) ∧ rs.length = n ∧ Words rs ∧ c ≤ 1 ∧ val rs + B ^ n * c = val (cx.take n) + val (cy.take n) ∧
        w'.heap[gz]? = some (row (rs ++ cz.drop n)) ∧ Fr (· = gz) w w' := by
  go_enter Yba.func19, Yba.ntmps19
  go_wp2
  go_loopw [6, 25] (fun c i wr => ∃ (k : Nat) (rs : List Nat) (cc : Nat), k ≤ n ∧ i = .int .i64 k ∧ c = .int .u64 (cc : Int) ∧ cc ≤ 1 ∧
      Hid (rs.length = k) ∧ Words rs ∧ Hid (val rs + B ^ k * cc = val (cx.take k) + val (cy.take k)) ∧ Hid (wr.heap[gz]? = some (row (rs ++ cz.drop k))) ∧ Fr (· = gz) w wr)
    (fun _ i _ => n - (intOf i).toNat)
  case atStart => exact ⟨0, [], 0, Nat.zero_le _, rfl, rfl, by omega, hid rfl, Words.nil, hid rfl, hid (by simpa using hz), Fr.refl _ _⟩
  case round =>
    obtain ⟨k, rs, cc, hk, rfl, rfl, hcc, hl, hrs, hv, hr, hf⟩ := hrel
    by_cases hlt : k < n
    · have rx := read_at hz hx hr.out hl.out hf (i := k) (by omega)
      have ry := read_at hz hy hr.out hl.out hf (i := k) (by omega)
      have fz : wr.frozen? ⟨gz, k, none⟩ = false := row_free hr.out
      obtain ⟨x, hxk⟩ : ∃ x, x = cx.getD k 0 := ⟨_, rfl⟩
      obtain ⟨y, hyk⟩ : ∃ y, y = cy.getD k 0 := ⟨_, rfl⟩
      rw [← hxk] at rx
      rw [← hyk] at ry
      have HX := hid hxk
      have HY := hid hyk
      clear hxk hyk
      have cz' : wr.cell? ⟨gz, k, none⟩ = some (.int .u64 ((rs ++ cz.drop k).getD k 0 : Nat)) := row_cell hr.out (by have := hl.out; simp; omega)
      obtain ⟨o, ho⟩ : ∃ o, o = (rs ++ cz.drop k).getD k 0 := ⟨_, rfl⟩
      rw [← ho] at cz'
      clear ho
      go_wp2_with fail
      go_quiet ((go_at_call 51; exact Calls.quiet_of_same (bits_add _ _ _ (by omega) (by omega) (by omega) (by omega) _)))
      go_wp2
      go_roundw
      case rel =>
        have R := add_rel hl.out hrs hv.out hr.out hf hlt lz lx ly HX.out HY.out bx bY hcc nq
        exact ⟨k + 1, rs ++ [(x + y + cc) % B], (x + y + cc) / B, by omega, by go_num, by rw [cast_div], R.1, hid R.2.1, R.2.2.1, hid R.2.2.2.1, hid R.2.2.2.2.1, R.2.2.2.2.2⟩
      case measure => simp [intOf]; omega
    · go_wp2
      go_ret
      obtain rfl : k = n := by omega
      exact ⟨rs, cc, rfl, hl.out, hrs, hcc, hv.out, hr.out, hf⟩
end Go.Proofs.Ybulkanxo
