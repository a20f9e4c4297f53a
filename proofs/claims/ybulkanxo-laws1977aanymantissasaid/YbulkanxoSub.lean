/-
  math/big.nat.sub: a number taken from one that is not smaller, into a new row.
-/
import Derived.Test.YbulkanxoAdd
namespace Go.Proofs.Ybulkanxo
open Go.RowKit
set_option linter.unusedVariables false

theorem no_borrow {v y x p c : Nat} (h : v + y = x + p * c) (hv : v < p) (hyx : y ≤ x) (hc : c ≤ 1) : c = 0 := by
  rcases Nat.lt_or_ge c 1 with h0 | h0
  · omega
  · have : c = 1 := by omega
    subst this
    omega

set_option maxHeartbeats 1000000 in
theorem sub_core_eq (Zv : Value) (gz gx gy n kx ky : Nat) (cz cx cy : List Nat) (w W1 : World) (hz : W1.heap[gz]? = some (row cz)) (hx : W1.heap[gx]? = some (row cx)) (hy : W1.heap[gy]? = some (row cy))
    (lz : n ≤ cz.length) (lx : n ≤ cx.length) (ly : n ≤ cy.length) (kx' : n ≤ kx) (ky' : n ≤ ky) (bx : Words cx) (bY : Words cy) (bz : Words cz) (hn : 1 ≤ n) (hm : n ≤ 990)
    (hle : Hid (val (cy.take n) ≤ val (cx.take n)))
    (hmk : Calls Yba.prog 43 #[Zv, .int .i64 (n : Int)] w fun e w' => .returned (.slice (some ⟨gz, 0, none⟩) n cz.length) = e ∧ W1 = w') :
    Calls Yba.prog 31 #[Zv, .slice (some ⟨gx, 0, none⟩) n kx, .slice (some ⟨gy, 0, none⟩) n ky] w fun e w' => NatOut W1 w' gz cz.length (val (cx.take n) - val (cy.take n)) e := by
  have hb1 : ((n : Int) == 0) = false := by simp; omega
  have hen := subVV_enters
  have i1 : (n : Int) ≤ (cz.length : Int) := by omega
  have i2 : (n : Int) ≤ (kx : Int) := by omega
  have i3 : (n : Int) ≤ (ky : Int) := by omega
  have i0 : (0 : Int) ≤ (n : Int) := by omega
  go_enter Yba.func31, Yba.ntmps31
  go_wp2_with (go_at_call 43; refine hmk.mono ?_; rintro e w' ⟨rfl, rfl⟩)
  go_region_held3 (fun _ => True) (trivial) ((go_at_call 20; refine (subVV_any gz gx gy n _ _ _ cz cx cy _ (by exact hz) (by exact hx) (by exact hy) (by omega) (by omega) (by omega) (by omega) bx bY).mono ?_; rintro e w1 ⟨rs, c, rfl, hl, hrs, hc, hv, hr, hf⟩))
  have hf1 := hf.undrew
  have hcz : c = 0 := no_borrow hv (by have := val_lt hrs; rwa [hl] at this) hle.out hc
  subst hcz
  have HR := hid hr
  have HV := hid hv
  have HL := hid hl
  clear hr hv hl hf
  go_wp2_with (go_at_call 48; refine (norm_any gz n cz.length _ _ HR.out (by have := HL.out; simp; omega) (by omega) (by omega)).mono ?_; rintro e w2 ⟨k, rfl, hk, hv2, hnm, rfl⟩)
  go_ret
  have hl := HL.out
  refine ⟨_, k, rfl, HR.out, by simp [hl]; omega, hrs.append (bz.drop n), by omega, hnm, ?_, hf1⟩
  rw [hv2, List.take_append_of_le_length (by simp [hl]), List.take_of_length_le (by simp [hl])]
  have := HV.out
  omega

set_option maxHeartbeats 2000000 in
theorem sub_core_gt (Zv : Value) (gz gx gy m n kx ky : Nat) (cz cx cy : List Nat) (w W1 : World) (hz : W1.heap[gz]? = some (row cz)) (hx : W1.heap[gx]? = some (row cx)) (hy : W1.heap[gy]? = some (row cy)) (hne : Hid (gz ≠ gx))
    (lz : m < cz.length) (lx : m ≤ cx.length) (ly : n ≤ cy.length) (kx' : m ≤ kx) (ky' : n ≤ ky) (bx : Words cx) (bY : Words cy) (bz : Words cz) (hn : 1 ≤ n) (hnm : n < m) (hm : m ≤ 990)
    (hle : Hid (val (cy.take n) ≤ val (cx.take m)))
    (hmk : Calls Yba.prog 43 #[Zv, .int .i64 (m : Int)] w fun e w' => .returned (.slice (some ⟨gz, 0, none⟩) m cz.length) = e ∧ W1 = w') :
    Calls Yba.prog 31 #[Zv, .slice (some ⟨gx, 0, none⟩) m kx, .slice (some ⟨gy, 0, none⟩) n ky] w fun e w' => NatOut W1 w' gz cz.length (val (cx.take m) - val (cy.take n)) e := by
  have hb1 : ((m : Int) == 0) = false := by simp; omega
  have hb2 : ((n : Int) == 0) = false := by simp; omega
  have hen := subVV_enters
  have l1 : n ≤ cz.length := by omega
  have i1 : (n : Int) ≤ (cz.length : Int) := by omega
  have i2 : (n : Int) ≤ (kx : Int) := by omega
  have i3 : (n : Int) ≤ (ky : Int) := by omega
  have i0 : (0 : Int) ≤ (n : Int) := by omega
  have i4 : (n : Int) ≤ (m : Int) := by omega
  have i5 : (m : Int) ≤ (cz.length : Int) := by omega
  have j1 : ¬ cz.length = n := by omega
  have j2 : ¬ kx = n := by omega
  go_enter Yba.func31, Yba.ntmps31
  go_wp2_with (go_at_call 43; refine hmk.mono ?_; rintro e w' ⟨rfl, rfl⟩)
  go_region_held3 (fun _ => True) (trivial) ((go_at_call 20; refine (subVV_any gz gx gy n _ _ _ cz cx cy _ (by exact hz) (by exact hx) (by exact hy) (by omega) (by omega) (by omega) (by omega) bx bY).mono ?_; rintro e w1 ⟨rs, c, rfl, hl, hrs, hc, hv, hr, hf⟩))
  have hf1 := hf.undrew
  have HR := hid hr
  have HV := hid hv
  have HL := hid hl
  have ll : (rs ++ cz.drop n).length = cz.length := by simp [hl]; omega
  have LL := hid ll
  clear hr hv hl hf ll
  have hvw : ∀ wd : Nat, Calls Yba.prog 53 #[.slice (some ⟨gz, n, none⟩) (m - n) (cz.length - n), .slice (some ⟨gx, n, none⟩) (m - n) (kx - n), .int .u64 (c : Int)] (w1.drewN wd) fun e w' => VWOut (w1.drewN wd) w' gz n (m - n) (rs ++ cz.drop n) (SubP (seg cx n (m - n)) (m - n) c) e := by
    intro wd
    have hx1 : w1.heap[gx]? = some (row cx) := (hf1.block gx (lt_of_block hx) (fun h => hne.out h.symm)).trans hx
    exact subVW_diff gz gx n (m - n) _ _ _ cx c _ hne.out HR.out hx1 (by rw [LL.out]; omega) (by omega) (by omega) (by omega) (by omega) (by omega) bx hc
  have HVW := hid hvw
  clear hvw
  go_wp2
  go_region_held3 (fun _ => True) (trivial) ((go_at_call 53; refine (HVW.out 1).mono ?_; rintro e w2 ⟨rs2, c2, rfl, hl2, hrs2, hc2, hv2, hr2, hf2⟩))
  rw [mid_two HL.out hnm] at hr2
  have hf3 : Fr (· = gz) W1 w2 := hf1.trans hf2.undrewN
  have hll : (rs ++ rs2).length = m := by simp [HL.out, hl2]; omega
  have tot : val (rs ++ rs2) + val (cy.take n) = val (cx.take m) + B ^ m * c2 := by
    rw [val_append, HL.out, val_take_seg cx n m (by omega) lx]
    have h1 := HV.out
    have h2 : val rs2 + c = val (seg cx n (m - n)) + B ^ (m - n) * c2 := hv2
    have h3 : B ^ n * (val rs2 + c) = B ^ n * (val (seg cx n (m - n)) + B ^ (m - n) * c2) := by rw [h2]
    rw [Nat.mul_add, Nat.mul_add, ← Nat.mul_assoc, ← Nat.pow_add, Nat.add_sub_cancel' (by omega : n ≤ m)] at h3
    omega
  have hcz : c2 = 0 := no_borrow tot (by have := val_lt (hrs.append hrs2); rwa [hll] at this) hle.out hc2
  subst hcz
  have HR2 := hid hr2
  have HT := hid tot
  have HL2 := hid hll
  clear hr2 hv2 hf2 tot hll hl2
  go_wp2_with (go_at_call 48; refine (norm_any gz m cz.length _ _ HR2.out (by rw [List.length_append, HL2.out]; omega) (by omega) (by omega)).mono ?_; rintro e w3 ⟨k, rfl, hk, hv3, hnm2, rfl⟩)
  go_ret
  have hl := HL2.out
  refine ⟨_, k, rfl, HR2.out, by rw [List.length_append, hl]; simp; omega, (hrs.append hrs2).append (bz.drop m), by omega, hnm2, ?_, hf3⟩
  rw [hv3, List.take_append_of_le_length (by omega), List.take_of_length_le (by omega)]
  have := HT.out
  omega
end Go.Proofs.Ybulkanxo
