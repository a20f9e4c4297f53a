/-
  math/big.nat.add: two numbers of one word and more, the longer first.
-/
import Derived.Test.YbulkanxoCmp
import Derived.Laws.Twins
import Derived.Deep.RegionHeld3
namespace Go.Proofs.Ybulkanxo
open Go.RowKit
set_option linter.unusedVariables false

theorem addVV_enters (args : Array Value) (w : World) : (callFunc 49 args).run Yba.prog w = .ok (.enter 19 args) w :=
  run_callFunc_twin (twin := "math/big.addVV_g") Yba.func49 (by kernel_rfl) (by kernel_rfl) (by kernel_rfl) (by kernel_rfl) Yba.func19 (by kernel_rfl) (by kernel_rfl) (by kernel_rfl) args w
theorem subVV_enters (args : Array Value) (w : World) : (callFunc 52 args).run Yba.prog w = .ok (.enter 20 args) w :=
  run_callFunc_twin (twin := "math/big.subVV_g") Yba.func52 (by kernel_rfl) (by kernel_rfl) (by kernel_rfl) (by kernel_rfl) Yba.func20 (by kernel_rfl) (by kernel_rfl) (by kernel_rfl) args w
theorem lshVU_enters (args : Array Value) (w : World) : (callFunc 47 args).run Yba.prog w = .ok (.enter 21 args) w :=
  run_callFunc_twin (twin := "math/big.lshVU_g") Yba.func47 (by kernel_rfl) (by kernel_rfl) (by kernel_rfl) (by kernel_rfl) Yba.func21 (by kernel_rfl) (by kernel_rfl) (by kernel_rfl) args w

theorem Fr.undrew {S : Nat → Prop} {w w' : World} (h : Fr S w.drew w') : Fr S w w' := ⟨h.os, h.tape, h.output, h.size, h.block⟩
theorem Fr.undrewN {S : Nat → Prop} {w w' : World} {n : Nat} (h : Fr S (w.drewN n) w') : Fr S w w' := ⟨h.os, h.tape, h.output, h.size, h.block⟩

/-- What a function of two numbers leaves in row gz: a number without a leading 0, equal to v. -/
def NatOut (W w' : World) (gz kz v : Nat) (e : Ending) : Prop :=
  ∃ (L : List Nat) (k : Nat), e = .returned (.slice (some ⟨gz, 0, none⟩) k kz) ∧ w'.heap[gz]? = some (row L) ∧ L.length = kz ∧ Words L ∧ k ≤ kz ∧ Normed L k ∧ val (L.take k) = v ∧ Fr (· = gz) W w'

theorem set_at {A R : List Nat} {d n : Nat} (h : A.length = n) (hR : R ≠ []) : (A ++ R).set n d = (A ++ [d]) ++ R.drop 1 := by
  subst h
  rw [List.set_append_right _ _ (Nat.le_refl _), Nat.sub_self]
  match R, hR with
  | r :: t, _ => simp

set_option maxHeartbeats 1000000 in
theorem add_core_eq (Zv : Value) (gz gx gy n kx ky : Nat) (cz cx cy : List Nat) (w W1 : World) (hz : W1.heap[gz]? = some (row cz)) (hx : W1.heap[gx]? = some (row cx)) (hy : W1.heap[gy]? = some (row cy))
    (lz : n + 1 ≤ cz.length) (lx : n ≤ cx.length) (ly : n ≤ cy.length) (kx' : n ≤ kx) (ky' : n ≤ ky) (bx : Words cx) (bY : Words cy) (bz : Words cz) (hn : 1 ≤ n) (hm : n ≤ 990)
    (hmk : Calls Yba.prog 43 #[Zv, .int .i64 ((n : Int) + 1)] w fun e w' => .returned (.slice (some ⟨gz, 0, none⟩) (n + 1) cz.length) = e ∧ W1 = w') :
    Calls Yba.prog 29 #[Zv, .slice (some ⟨gx, 0, none⟩) n kx, .slice (some ⟨gy, 0, none⟩) n ky] w fun e w' => NatOut W1 w' gz cz.length (val (cx.take n) + val (cy.take n)) e := by
  have hb1 : ((n : Int) == 0) = false := by simp; omega
  have hen := addVV_enters
  have l1 : n ≤ cz.length := by omega
  have i1 : (n : Int) ≤ (cz.length : Int) := by omega
  have i2 : (n : Int) ≤ (kx : Int) := by omega
  have i3 : (n : Int) ≤ (ky : Int) := by omega
  have i0 : (0 : Int) ≤ (n : Int) := by omega
  go_enter Yba.func29, Yba.ntmps29
  go_wp2_with (go_at_call 43; refine hmk.mono ?_; rintro e w' ⟨rfl, rfl⟩)
  go_region_held3 (fun _ => True) (trivial) ((go_at_call 19; refine (addVV_any gz gx gy n _ _ _ cz cx cy _ (by exact hz) (by exact hx) (by exact hy) (by omega) (by omega) (by omega) (by omega) bx bY).mono ?_; rintro e w1 ⟨rs, c, rfl, hl, hrs, hc, hv, hr, hf⟩))
  have hf1 := hf.undrew
  have HR := hid hr
  have HV := hid hv
  have HL := hid hl
  clear hr hv hl hf
  have fz : w1.frozen? ⟨gz, n, none⟩ = false := row_free HR.out
  obtain ⟨z0, cz0⟩ : ∃ z : Nat, w1.cell? ⟨gz, n, none⟩ = some (.int .u64 (z : Int)) := ⟨_, row_cell HR.out (by have := HL.out; simp; omega)⟩
  have hs : (w1.setCell ⟨gz, n, none⟩ (.int .u64 (c : Int))).heap[gz]? = some (row ((rs ++ [c]) ++ (cz.drop n).drop 1)) := by
    rw [row_set HR.out, set_at HL.out (by intro h; have := congrArg List.length h; simp at this; omega)]
  have HS := hid hs
  clear hs
  have hcB : c < B := by unfold B; omega
  go_wp2_with (go_at_call 48; refine (norm_any gz (n + 1) cz.length _ _ HS.out (by have := HL.out; simp; omega) (by omega) (by omega)).mono ?_; rintro e w2 ⟨k, rfl, hk, hv2, hnm, rfl⟩)
  go_ret
  have hl := HL.out
  refine ⟨_, k, rfl, HS.out, by simp [hl]; omega, (hrs.snoc hcB).append ((bz.drop n).drop 1), by omega, hnm, ?_, hf1.setCell (ad := ⟨gz, n, none⟩) (fun _ => rfl) _⟩
  rw [hv2, List.take_append_of_le_length (by simp [hl]), List.take_of_length_le (by simp [hl]), val_snoc, hl]
  exact HV.out

/-- What addVW leaves on top of addVV. -/
theorem mid_two {rs rs2 cz : List Nat} {n m : Nat} (h : rs.length = n) (hnm : n < m) : mid (rs ++ cz.drop n) rs2 n (m - n) = (rs ++ rs2) ++ cz.drop m := by
  unfold mid
  have e1 : (rs ++ cz.drop n).take n = rs := by rw [List.take_append_of_le_length (by omega), List.take_of_length_le (by omega)]
  have e2 : (rs ++ cz.drop n).drop (n + (m - n)) = cz.drop m := by
    rw [List.drop_append, List.drop_of_length_le (by omega), List.drop_drop, h]
    simp
    congr 1; omega
  rw [e1, e2, List.append_assoc]
theorem seg_same {rs cz : List Nat} {n k : Nat} (h : rs.length = n) : seg (rs ++ cz.drop n) n k = seg cz n k := by
  unfold seg
  rw [List.drop_append, List.drop_of_length_le (by omega), h]
  simp
theorem val_take_seg (cx : List Nat) (n m : Nat) (h : n ≤ m) (hl : m ≤ cx.length) : val (cx.take m) = val (cx.take n) + B ^ n * val (seg cx n (m - n)) := by
  rw [val_split (cx.take m) n (by simp; omega)]
  congr 2
  · rw [List.take_take, Nat.min_eq_left h]
  · unfold seg; rw [List.drop_take]
theorem sum_two {v p c s t a b q e : Nat} (h1 : v + p * c = a + b) (h2 : s + q * t = e + c) : v + p * (s + q * t) = (a + p * e) + b := by
  rw [h2, Nat.mul_add]; omega

set_option maxHeartbeats 2000000 in
theorem add_core_gt (Zv : Value) (gz gx gy m n kx ky : Nat) (cz cx cy : List Nat) (w W1 : World) (hz : W1.heap[gz]? = some (row cz)) (hx : W1.heap[gx]? = some (row cx)) (hy : W1.heap[gy]? = some (row cy))
    (lz : m + 1 ≤ cz.length) (lx : m ≤ cx.length) (ly : n ≤ cy.length) (kx' : m ≤ kx) (ky' : n ≤ ky) (bx : Words cx) (bY : Words cy) (bz : Words cz) (hn : 1 ≤ n) (hnm : n < m) (hm : m ≤ 990)
    (hmk : Calls Yba.prog 43 #[Zv, .int .i64 ((m : Int) + 1)] w fun e w' => .returned (.slice (some ⟨gz, 0, none⟩) (m + 1) cz.length) = e ∧ W1 = w') :
    Calls Yba.prog 29 #[Zv, .slice (some ⟨gx, 0, none⟩) m kx, .slice (some ⟨gy, 0, none⟩) n ky] w fun e w' => NatOut W1 w' gz cz.length (val (cx.take m) + val (cy.take n)) e := by
  have hb1 : ((m : Int) == 0) = false := by simp; omega
  have hb2 : ((n : Int) == 0) = false := by simp; omega
  have hen := addVV_enters
  have l1 : n ≤ cz.length := by omega
  have i1 : (n : Int) ≤ (cz.length : Int) := by omega
  have i2 : (n : Int) ≤ (kx : Int) := by omega
  have i3 : (n : Int) ≤ (ky : Int) := by omega
  have i0 : (0 : Int) ≤ (n : Int) := by omega
  have i4 : (n : Int) ≤ (m : Int) := by omega
  have i5 : (m : Int) ≤ (cz.length : Int) := by omega
  have j1 : ¬ cz.length = n := by omega
  have j2 : ¬ kx = n := by omega
  go_enter Yba.func29, Yba.ntmps29
  go_wp2_with (go_at_call 43; refine hmk.mono ?_; rintro e w' ⟨rfl, rfl⟩)
  go_region_held3 (fun _ => True) (trivial) ((go_at_call 19; refine (addVV_any gz gx gy n _ _ _ cz cx cy _ (by exact hz) (by exact hx) (by exact hy) (by omega) (by omega) (by omega) (by omega) bx bY).mono ?_; rintro e w1 ⟨rs, c, rfl, hl, hrs, hc, hv, hr, hf⟩))
  have hf1 := hf.undrew
  have HR := hid hr
  have HV := hid hv
  have HL := hid hl
  have ll : (rs ++ cz.drop n).length = cz.length := by simp [hl]; omega
  have LL := hid ll
  clear hr hv hl hf ll
  -- the carry through the longer number's upper words
  have hvw : ∀ wd : Nat, Calls Yba.prog 50 #[.slice (some ⟨gz, n, none⟩) (m - n) (cz.length - n), .slice (some ⟨gx, n, none⟩) (m - n) (kx - n), .int .u64 (c : Int)] (w1.drewN wd) fun e w' => VWOut (w1.drewN wd) w' gz n (m - n) (rs ++ cz.drop n) (AddP (seg cx n (m - n)) (m - n) c) e := by
    intro wd
    by_cases e : gz = gx
    · subst e
      have ec : cx = cz := row_inj (Option.some.inj (hx.symm.trans hz))
      subst ec
      rw [← seg_same (cz := cx) HL.out]
      exact addVW_same gz n (m - n) _ _ _ c _ HR.out (by rw [LL.out]; omega) (by omega) (by omega) (by omega) (by omega) (hrs.append (bz.drop n)) hc
    · have hx1 : w1.heap[gx]? = some (row cx) := (hf1.block gx (lt_of_block hx) (fun h => e h.symm)).trans hx
      exact addVW_diff gz gx n (m - n) _ _ _ cx c _ e HR.out hx1 (by rw [LL.out]; omega) (by omega) (by omega) (by omega) (by omega) (by omega) bx hc
  have HVW := hid hvw
  clear hvw
  go_wp2
  go_region_held3 (fun _ => True) (trivial) ((go_at_call 50; refine (HVW.out 1).mono ?_; rintro e w2 ⟨rs2, c2, rfl, hl2, hrs2, hc2, hv2, hr2, hf2⟩))
  rw [mid_two HL.out hnm] at hr2
  have hf3 : Fr (· = gz) W1 w2 := hf1.trans hf2.undrewN
  have HR2 := hid hr2
  have HV2 := hid hv2
  have HL2 : Hid ((rs ++ rs2).length = m) := hid (by simp [HL.out, hl2]; omega)
  clear hr2 hv2 hf2
  have fz : w2.frozen? ⟨gz, m, none⟩ = false := row_free HR2.out
  obtain ⟨z0, cz0⟩ : ∃ z : Nat, w2.cell? ⟨gz, m, none⟩ = some (.int .u64 (z : Int)) := ⟨_, row_cell HR2.out (by rw [List.length_append, HL2.out]; simp; omega)⟩
  have hs : (w2.setCell ⟨gz, m, none⟩ (.int .u64 (c2 : Int))).heap[gz]? = some (row (((rs ++ rs2) ++ [c2]) ++ (cz.drop m).drop 1)) := by
    rw [row_set HR2.out, set_at HL2.out (by intro h; have := congrArg List.length h; simp at this; omega)]
  have HS := hid hs
  clear hs
  have HB2 : Hid (rs2.length = m - n) := hid hl2
  clear hl2
  have hcB : c2 < B := by unfold B; omega
  go_wp2_with (go_at_call 48; refine (norm_any gz (m + 1) cz.length _ _ HS.out (by rw [List.length_append, List.length_append, HL2.out]; simp) (by omega) (by omega)).mono ?_; rintro e w3 ⟨k, rfl, hk, hv3, hnm2, rfl⟩)
  go_ret
  have hl := HL.out
  have hl2 := HB2.out
  refine ⟨_, k, rfl, HS.out, by simp [hl, hl2]; omega, ((hrs.append hrs2).snoc hcB).append ((bz.drop m).drop 1), by omega, hnm2, ?_, hf3.setCell (ad := ⟨gz, m, none⟩) (fun _ => rfl) _⟩
  rw [hv3, List.take_append_of_le_length (by simp [hl, hl2]; omega), List.take_of_length_le (by simp [hl, hl2]; omega), List.append_assoc, val_append, hl, val_snoc, hl2, val_take_seg cx n m (by omega) lx]
  exact sum_two HV.out HV2.out
end Go.Proofs.Ybulkanxo
