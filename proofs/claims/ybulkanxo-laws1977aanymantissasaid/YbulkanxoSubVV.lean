/-
  math/big.subVV_g: the words of one number taken from another's, into a third row, which may be one of the two.
-/
import Derived.Test.YbulkanxoAddVV
namespace Go.Proofs.Ybulkanxo
open Go.RowKit

/-- One word of a difference; the borrow. -/
def subD (x y c : Nat) : Nat := (x + B - y - c) % B
def subB (x y c : Nat) : Nat := if x < y + c then 1 else 0
theorem subB_le (x y c : Nat) : subB x y c ≤ 1 := by unfold subB; split <;> omega
theorem subD_lt (x y c : Nat) : subD x y c < B := Nat.mod_lt _ B_pos
theorem sub_word (x y c : Nat) (hx : x < B) (hy : y < B) (hc : c ≤ 1) : subD x y c + y + c = x + B * subB x y c := by
  unfold subD subB B at *; split <;> omega
theorem cast_sub (x y c : Nat) (hx : x < B) (hy : y < B) (hc : c ≤ 1) : (((x : Int) - y - c) % 18446744073709551616) = ((subD x y c : Nat) : Int) := by unfold subD B at *; omega
theorem cast_bor (x y c : Nat) : bor (x : Int) ((y : Int) + c) = ((subB x y c : Nat) : Int) := by unfold bor subB; split <;> split <;> omega
theorem sub_step (v a b p d x y c c' : Nat) (h : v + b = a + p * c) (e : d + y + c = x + B * c') : (v + p * d) + (b + p * y) = (a + p * x) + p * B * c' := by
  have e1 : p * (d + y + c) = p * (x + B * c') := by rw [e]
  rw [Nat.mul_add, Nat.mul_add, Nat.mul_add] at e1
  rw [Nat.mul_assoc]
  omega

/-- The round's step on the row and on the numbers. -/
theorem sub_rel {w wr : World} {gz k n : Nat} {cz cx cy rs : List Nat} {x y cc : Nat} (hl : rs.length = k) (hrs : Words rs) (hv : val rs + val (cy.take k) = val (cx.take k) + B ^ k * cc)
    (hr : wr.heap[gz]? = some (row (rs ++ cz.drop k))) (hf : Fr (· = gz) w wr) (hk : k < n) (lz : n ≤ cz.length) (lx : n ≤ cx.length) (ly : n ≤ cy.length)
    (hx : x = cx.getD k 0) (hy : y = cy.getD k 0) (bx : Words cx) (bY : Words cy) (hcc : cc ≤ 1) (nq : Nat) :
    (rs ++ [subD x y cc]).length = k + 1 ∧ Words (rs ++ [subD x y cc]) ∧
      val (rs ++ [subD x y cc]) + val (cy.take (k + 1)) = val (cx.take (k + 1)) + B ^ (k + 1) * subB x y cc ∧
      ((wr.drewN nq).setCell ⟨gz, k, none⟩ (.int .u64 (((x : Int) - y - cc) % 18446744073709551616))).heap[gz]? = some (row ((rs ++ [subD x y cc]) ++ cz.drop (k + 1))) ∧
      Fr (· = gz) w ((wr.drewN nq).setCell ⟨gz, k, none⟩ (.int .u64 (((x : Int) - y - cc) % 18446744073709551616))) := by
  have bxk : x < B := by rw [hx]; exact bx.getD k
  have byk : y < B := by rw [hy]; exact bY.getD k
  refine ⟨by simp [hl], hrs.snoc (subD_lt _ _ _), ?_, ?_, (hf.drewN nq).setCell (fun _ => rfl) _⟩
  · rw [val_snoc, hl, val_take_succ cx k (by omega), val_take_succ cy k (by omega), ← hx, ← hy, Nat.pow_succ]
    exact sub_step _ _ _ _ _ _ _ _ _ hv (sub_word x y cc bxk byk hcc)
  · have h0 : (wr.drewN nq).heap[gz]? = some (row (rs ++ cz.drop k)) := hr
    rw [cast_sub x y cc bxk byk hcc, row_set h0, take_append_drop_step rs cz k _ hl (by omega)]

set_option maxHeartbeats 1000000 in
theorem subVV_any (gz gx gy n kz kx ky : Nat) (cz cx cy : List Nat) (w : World) (hz : w.heap[gz]? = some (row cz)) (hx : w.heap[gx]? = some (row cx)) (hy : w.heap[gy]? = some (row cy))
    (lz : n ≤ cz.length) (lx : n ≤ cx.length) (ly : n ≤ cy.length) (hn : n ≤ 1000) (bx : Words cx) (bY : Words cy) :
    Calls Yba.prog 20 #[.slice (some ⟨gz, 0, none⟩) n kz, .slice (some ⟨gx, 0, none⟩) n kx, .slice (some ⟨gy, 0, none⟩) n ky] w fun e w' =>
      ∃ (rs : List Nat) (c : Nat), e = .returned (.int .u64 (c : Int)) ∧ rs.length = n ∧ Words rs ∧ c ≤ 1 ∧ val rs + val (cy.take n) = val (cx.take n) + B ^ n * c ∧
        w'.heap[gz]? = some (row (rs ++ cz.drop n)) ∧ Fr (· = gz) w w' := by
  go_enter Yba.func20, Yba.ntmps20
  go_wp2
  go_loopw [6, 25] (fun c i wr => ∃ (k : Nat) (rs : List Nat) (cc : Nat), k ≤ n ∧ i = .int .i64 k ∧ c = .int .u64 (cc : Int) ∧ cc ≤ 1 ∧
      Hid (rs.length = k) ∧ Words rs ∧ Hid (val rs + val (cy.take k) = val (cx.take k) + B ^ k * cc) ∧ Hid (wr.heap[gz]? = some (row (rs ++ cz.drop k))) ∧ Fr (· = gz) w wr)
    (fun _ i _ => n - (intOf i).toNat)
  case atStart => exact ⟨0, [], 0, Nat.zero_le _, rfl, rfl, by omega, hid rfl, Words.nil, hid rfl, hid (by simpa using hz), Fr.refl _ _⟩
  case round =>
    obtain ⟨k, rs, cc, hk, rfl, rfl, hcc, hl, hrs, hv, hr, hf⟩ := hrel
    by_cases hlt : k < n
    · have rx := read_at hz hx hr.out hl.out hf (i := k) (by omega)
      have ry := read_at hz hy hr.out hl.out hf (i := k) (by omega)
      have fz : wr.frozen? ⟨gz, k, none⟩ = false := row_free hr.out
      obtain ⟨x, hxk⟩ : ∃ x, x = cx.getD k 0 := ⟨_, rfl⟩
      obtain ⟨y, hyk⟩ : ∃ y, y = cy.getD k 0 := ⟨_, rfl⟩
      rw [← hxk] at rx
      rw [← hyk] at ry
      have HX := hid hxk
      have HY := hid hyk
      have byk : (y : Int) < 18446744073709551616 := by have := bY.getD k; rw [← hyk] at this; unfold B at this; omega
      clear hxk hyk
      have cz' : wr.cell? ⟨gz, k, none⟩ = some (.int .u64 ((rs ++ cz.drop k).getD k 0 : Nat)) := row_cell hr.out (by have := hl.out; simp; omega)
      obtain ⟨o, ho⟩ : ∃ o, o = (rs ++ cz.drop k).getD k 0 := ⟨_, rfl⟩
      rw [← ho] at cz'
      clear ho
      go_wp2_with fail
      go_quiet ((go_at_call 54; exact Calls.quiet_of_same (bits_sub _ _ _ (by omega) (by omega) byk (by omega) (by omega) _)))
      go_wp2
      go_roundw
      case rel =>
        have R := sub_rel hl.out hrs hv.out hr.out hf hlt lz lx ly HX.out HY.out bx bY hcc nq
        exact ⟨k + 1, rs ++ [subD x y cc], subB x y cc, by omega, by go_num, by rw [cast_bor], subB_le _ _ _, hid R.1, R.2.1, hid R.2.2.1, hid R.2.2.2.1, R.2.2.2.2⟩
      case measure => simp [intOf]; omega
    · go_wp2
      go_ret
      obtain rfl : k = n := by omega
      exact ⟨rs, cc, rfl, hl.out, hrs, hcc, hv.out, hr.out, hf⟩
end Go.Proofs.Ybulkanxo
