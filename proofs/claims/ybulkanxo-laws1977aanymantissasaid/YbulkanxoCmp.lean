/-
  math/big.nat.cmp.
-/
import Derived.Test.YbulkanxoSubVWd
namespace Go.Proofs.Ybulkanxo
open Go.RowKit
set_option linter.unusedVariables false

/-- The sign of a - b. -/
def cmpN (a b : Nat) : Int := if a < b then -1 else if b < a then 1 else 0
theorem cmpN_lt {a b : Nat} (h : a < b) : cmpN a b = -1 := if_pos h
theorem cmpN_gt {a b : Nat} (h : b < a) : cmpN a b = 1 := by unfold cmpN; rw [if_neg (by omega), if_pos h]
theorem cmpN_eq (a : Nat) : cmpN a a = 0 := by unfold cmpN; simp

/-- The number in the first n words of a row, without a leading 0: from below. -/
theorem val_ge {cs : List Nat} {n : Nat} (hn : Normed cs n) (hl : n ≤ cs.length) (h0 : 0 < n) : B ^ (n - 1) ≤ val (cs.take n) := by
  obtain ⟨j, rfl⟩ : ∃ j, n = j + 1 := ⟨n - 1, by omega⟩
  have := hn h0
  rw [Nat.add_sub_cancel] at this ⊢
  rw [val_take_succ cs j (by omega)]
  have h1 : B ^ j * 1 ≤ B ^ j * cs.getD j 0 := Nat.mul_le_mul_left _ (by omega)
  omega
theorem val_take_lt {cs : List Nat} {n : Nat} (hw : Words cs) (hl : n ≤ cs.length) : val (cs.take n) < B ^ n := by
  have := val_lt (hw.take n)
  rwa [List.length_take, Nat.min_eq_left hl] at this
/-- Fewer words: a smaller number. -/
theorem len_lt {cx cy : List Nat} {m n : Nat} (wx : Words cx) (hx : m ≤ cx.length) (hy : n ≤ cy.length) (ny : Normed cy n) (h : m < n) : val (cx.take m) < val (cy.take n) := by
  have h1 := val_take_lt wx hx
  have h2 := val_ge ny hy (by omega)
  have h3 : B ^ m ≤ B ^ (n - 1) := Nat.pow_le_pow_right B_pos (by omega)
  omega

/-- From the word at which two numbers part. -/
theorem part_lt {cx cy : List Nat} {k n : Nat} (wx : Words cx) (hx : n ≤ cx.length) (hy : n ≤ cy.length) (hk : k < n) (ht : (cx.take n).drop (k + 1) = (cy.take n).drop (k + 1)) (h : cx.getD k 0 < cy.getD k 0) : val (cx.take n) < val (cy.take n) := by
  rw [val_split (cx.take n) (k + 1) (by simp; omega), val_split (cy.take n) (k + 1) (by simp; omega), ht]
  have e1 : (cx.take n).take (k + 1) = cx.take (k + 1) := by rw [List.take_take, Nat.min_eq_left (by omega)]
  have e2 : (cy.take n).take (k + 1) = cy.take (k + 1) := by rw [List.take_take, Nat.min_eq_left (by omega)]
  rw [e1, e2, val_take_succ cx k (by omega), val_take_succ cy k (by omega)]
  have h1 := val_take_lt (n := k) wx (by omega)
  have h2 : B ^ k * (cx.getD k 0 + 1) ≤ B ^ k * cy.getD k 0 := Nat.mul_le_mul_left _ h
  rw [Nat.mul_add, Nat.mul_one] at h2
  omega
theorem part_eq {cx cy : List Nat} {n : Nat} (hx : n ≤ cx.length) (hy : n ≤ cy.length) (hk : 0 < n) (ht : (cx.take n).drop 1 = (cy.take n).drop 1) (h : cx.getD 0 0 = cy.getD 0 0) : val (cx.take n) = val (cy.take n) := by
  rw [val_split (cx.take n) 1 (by simp; omega), val_split (cy.take n) 1 (by simp; omega), ht]
  have e1 : (cx.take n).take 1 = cx.take 1 := by rw [List.take_take, Nat.min_eq_left (by omega)]
  have e2 : (cy.take n).take 1 = cy.take 1 := by rw [List.take_take, Nat.min_eq_left (by omega)]
  rw [e1, e2, val_take_succ cx 0 (by omega), val_take_succ cy 0 (by omega), h]
  simp
theorem tail_step {cx cy : List Nat} {k n : Nat} (hx : n ≤ cx.length) (hy : n ≤ cy.length) (hk : k < n) (ht : (cx.take n).drop (k + 1) = (cy.take n).drop (k + 1)) (h : cx.getD k 0 = cy.getD k 0) :
    (cx.take n).drop k = (cy.take n).drop k := by
  have a : k < (cx.take n).length := by simp; omega
  have b : k < (cy.take n).length := by simp; omega
  rw [List.drop_eq_getElem_cons a, List.drop_eq_getElem_cons b, ht]
  congr 1
  have e1 : (cx.take n)[k] = cx.getD k 0 := by simp [List.getD, List.getElem?_eq_getElem (show k < cx.length by omega)]
  have e2 : (cy.take n)[k] = cy.getD k 0 := by simp [List.getD, List.getElem?_eq_getElem (show k < cy.length by omega)]
  rw [e1, e2, h]

set_option maxHeartbeats 400000 in
theorem cmp_lens (ax ay : Option Addr) (m n kx ky : Nat) (w : World) (hm : m ≤ 1000) (hn : n ≤ 1000) (h : m < n) :
    Calls Yba.prog 30 #[.slice ax m kx, .slice ay n ky] w fun e w' => e = .returned (.int .i64 (-1)) ∧ w' = w := by
  have hb : ((m : Int) != n) = true := by simp; omega
  go_enter Yba.func30, Yba.ntmps30
  go_wp2
  go_ret
  exact ⟨rfl, rfl⟩
set_option maxHeartbeats 400000 in
theorem cmp_lens' (ax ay : Option Addr) (m n kx ky : Nat) (w : World) (hm : m ≤ 1000) (hn : n ≤ 1000) (h : n < m) :
    Calls Yba.prog 30 #[.slice ax m kx, .slice ay n ky] w fun e w' => e = .returned (.int .i64 1) ∧ w' = w := by
  have hb : ((m : Int) != n) = true := by simp; omega
  go_enter Yba.func30, Yba.ntmps30
  go_wp2
  go_ret
  exact ⟨rfl, rfl⟩
set_option maxHeartbeats 400000 in
theorem cmp_zero (ax ay : Option Addr) (kx ky : Nat) (w : World) :
    Calls Yba.prog 30 #[.slice ax 0 kx, .slice ay 0 ky] w fun e w' => e = .returned (.int .i64 0) ∧ w' = w := by
  go_enter Yba.func30, Yba.ntmps30
  go_wp2
  go_ret
  exact ⟨rfl, rfl⟩

set_option maxHeartbeats 1000000 in
theorem cmp_words (gx gy n kx ky : Nat) (cx cy : List Nat) (w : World) (hx : w.heap[gx]? = some (row cx)) (hy : w.heap[gy]? = some (row cy)) (lx : n ≤ cx.length) (ly : n ≤ cy.length) (wx : Words cx) (wy : Words cy)
    (h0 : 0 < n) (hn : n ≤ 1000) :
    Calls Yba.prog 30 #[.slice (some ⟨gx, 0, none⟩) n kx, .slice (some ⟨gy, 0, none⟩) n ky] w fun e w' => e = .returned (.int .i64 (cmpN (val (cx.take n)) (val (cy.take n)))) ∧ ∃ d, w' = w.drewN d := by
  have hb : ((n : Int) == 0) = false := by simp; omega
  obtain ⟨r, hr⟩ : ∃ r, r = cmpN (val (cx.take n)) (val (cy.take n)) := ⟨_, rfl⟩
  rw [← hr]
  have HR := hid hr
  clear hr
  go_enter Yba.func30, Yba.ntmps30
  go_wp2
  go_loopw [7] (fun t wr => ∃ k : Nat, k < n ∧ t = .int .i64 k ∧ Hid ((cx.take n).drop (k + 1) = (cy.take n).drop (k + 1)) ∧ Hid (∃ d, wr = w.drewN d)) (fun t _ => (intOf t).toNat)
  case atStart => exact ⟨n - 1, by omega, by go_num, hid (by rw [Nat.sub_add_cancel h0]; simp), hid ⟨0, rfl⟩⟩
  case round =>
    obtain ⟨k, hk, rfl, ht, hw⟩ := hrel
    obtain ⟨d, rfl⟩ := hw.out
    have cx0 : w.cell? ⟨gx, k, none⟩ = some (.int .u64 (cx.getD k 0 : Nat)) := row_cell hx (by omega)
    have cy0 : w.cell? ⟨gy, k, none⟩ = some (.int .u64 (cy.getD k 0 : Nat)) := row_cell hy (by omega)
    obtain ⟨x, hxk⟩ : ∃ x, x = cx.getD k 0 := ⟨_, rfl⟩
    obtain ⟨y, hyk⟩ : ∃ y, y = cy.getD k 0 := ⟨_, rfl⟩
    rw [← hxk] at cx0
    rw [← hyk] at cy0
    have HX := hid hxk
    have HY := hid hyk
    clear hxk hyk
    by_cases hk0 : 0 < k
    · by_cases hxy : x = y
      · subst hxy
        go_wp2_with fail
        go_quiet (fail)
        go_wp2
        go_roundw
        case rel => exact ⟨k - 1, by omega, by go_num, hid (by rw [Nat.sub_add_cancel hk0]; exact tail_step lx ly hk ht.out (HX.out.symm.trans HY.out)), hid ⟨_, rfl⟩⟩
        case measure => simp [intOf]; omega
      · have hb2 : ((x : Int) == y) = false := by simp; omega
        by_cases hlt : x < y
        · have hR : r = -1 := by rw [HR.out, cmpN_lt (part_lt wx lx ly hk ht.out (by rw [← HX.out, ← HY.out]; exact hlt))]
          subst hR
          clear hxy
          go_wp2_with fail
          go_quiet (fail)
          go_wp2
          go_quiet (fail)
          go_wp2
          go_ret
          exact ⟨rfl, by simp only [World.drewN_drewN]; exact ⟨_, rfl⟩⟩
        · have hgt : y < x := by omega
          have hR : r = 1 := by rw [HR.out, cmpN_gt (part_lt wy ly lx hk ht.out.symm (by rw [← HX.out, ← HY.out]; exact hgt))]
          subst hR
          clear hxy hlt
          go_wp2_with fail
          go_quiet (fail)
          go_wp2
          go_quiet (fail)
          go_wp2
          go_quiet (fail)
          go_wp2
          go_ret
          exact ⟨rfl, by simp only [World.drewN_drewN]; exact ⟨_, rfl⟩⟩
    · obtain rfl : k = 0 := by omega
      rcases Nat.lt_trichotomy x y with hlt | heq | hgt
      · have hR : r = -1 := by rw [HR.out, cmpN_lt (part_lt wx lx ly hk ht.out (by rw [← HX.out, ← HY.out]; exact hlt))]
        subst hR
        go_wp2_with fail
        go_quiet (fail)
        go_wp2
        go_quiet (fail)
        go_wp2
        go_ret
        exact ⟨rfl, by simp only [World.drewN_drewN]; exact ⟨_, rfl⟩⟩
      · have hR : r = 0 := by rw [HR.out, part_eq lx ly h0 ht.out (by rw [← HX.out, ← HY.out]; exact heq), cmpN_eq]
        subst hR
        subst heq
        go_wp2_with fail
        go_quiet (fail)
        go_wp2
        go_quiet (fail)
        go_wp2
        go_quiet (fail)
        go_wp2
        go_ret
        exact ⟨rfl, by simp only [World.drewN_drewN]; exact ⟨_, rfl⟩⟩
      · have hR : r = 1 := by rw [HR.out, cmpN_gt (part_lt wy ly lx hk ht.out.symm (by rw [← HX.out, ← HY.out]; exact hgt))]
        subst hR
        go_wp2_with fail
        go_quiet (fail)
        go_wp2
        go_quiet (fail)
        go_wp2
        go_quiet (fail)
        go_wp2
        go_ret
        exact ⟨rfl, by simp only [World.drewN_drewN]; exact ⟨_, rfl⟩⟩
end Go.Proofs.Ybulkanxo
