/-
  zzs1977around: the walk.
-/
import Derived.Test.YbulkanxoExact
namespace Go.Proofs.Ybulkanxo
open Go.RowKit
set_option linter.unusedVariables false

/-- The way in: the number's sign, the answer's sign, its magnitude. -/
def Pre (sg m : Int) (M : Nat) : Prop :=
  ((sg < 0) = False ∧ (m < 0) = False ∧ IntKind.u64.wrap m = (M : Int)) ∨
  ((sg < 0) = True ∧ (0 < m) = False ∧ (m < 0) = True ∧ ∃ z : Int, IntKind.u64.wrap m = z ∧ IntKind.u64.wrap (-z) = (M : Int)) ∨
  ((sg < 0) = True ∧ (0 < m) = False ∧ (m < 0) = False ∧ IntKind.u64.wrap m = (M : Int))

theorem lt_one : Lt100 1 := lt100 (by unfold B; decide)
theorem own_lt {g : Bool} {w : World} {lo hi b : Nat} {neg : Bool} {v : Nat} (h : OwnG g w lo hi b neg v) : lo ≤ b ∧ b < hi ∧ hi ≤ w.heap.size := by
  obtain ⟨X, h1, h2, h3, h4, h5, h6, h7⟩ := h
  exact ⟨h3, h4, h5⟩

section
variable {g : Bool} {lo hi bx : Nat} {neg : Bool} {v : Nat} (s M : Nat) (m r sg : Int) (w : World)
  (hx : Hid (OwnG g w lo hi bx neg v)) (hs : s ≤ 191)
  (SG : Hid (Calls Yba.prog 39 #[.pointer (some ⟨bx, 0, none⟩)] w fun e w' => .returned (.int .i64 sg) = e ∧ w = w'))
  (hp : Hid (Pre sg m M)) (bv : Lt100 v) (hM : Unit → M < B) (bM : Lt100 M)
include hx hs SG hp bv hM bM

set_option maxHeartbeats 4000000 in
theorem around_down (hr : (r == 2) = true) (b1 : Lt100 (M * 2 ^ s)) (b2 : Lt100 (M + 1)) (b3 : Lt100 ((M + 1) * 2 ^ s)) (c1 c2 : Int) (h1 : Unit → cmpN (M * 2 ^ s) v = c1) (h2 : Unit → cmpN v ((M + 1) * 2 ^ s) = c2) (k1 : (c1 ≤ 0) = True) (k2 : (c2 < 0) = True) :
    Calls Yba.prog 17 #[.pointer (some ⟨bx, 0, none⟩), .int .u64 (s : Int), .int .i64 m, .int .i64 r] w fun e w' => .returned (.bool true) = e ∧ Below w.heap.size w w' := by
  have hp' := hp.out
  clear hp
  rcases hp' with ⟨p1, p2, p3⟩ | ⟨p1, p2, p3, z, p4, p5⟩ | ⟨p1, p2, p3, p4⟩
  all_goals
    go_enter Yba.func17, Yba.ntmps17
    go_wp2_with fail
    refine SG.out.mono ?_
    rintro e w' ⟨rfl, rfl⟩
    go_wp2_with fail
    refine (c_abs w hx.out bv).mono ?_
    rintro e w1 ⟨rfl, q1, r1⟩
    have Q1 := hid q1
    have R1 := hid r1
    clear q1 r1
    go_wp2_with fail
    refine (c_setU M (hM ()) w1).mono ?_
    rintro e w2 ⟨rfl, q2, r2⟩
    have A2 := hid (Q1.out.keep r2 (Nat.le_refl _))
    have Q2 := hid q2.own
    have R2 := hid (R1.out.trans (r2.mono R1.out.size))
    have hlt := hid (own_lt Q1.out)
    have n2 := hid (own_lt q2.own)
    clear q2 r2 Q1 R1
    go_wp2_with fail
    refine (c_lsh s w2 Q2.out bM (Nat.le_trans hs (by decide))).mono ?_
    rintro e w3 ⟨rfl, q3, r3⟩
    have A3 := hid (A2.out.keep r3 (by have := own_lt A2.out; omega))
    have M3 := hid (Q2.out.keep r3 (Nat.le_refl _))
    have Q3 := hid q3
    have R3 := hid (R2.out.trans (r3.mono R2.out.size))
    clear q3 r3 A2 Q2 R2
    go_wp2_with fail
    refine (c_one (w3.alloc new0)).mono ?_
    rintro e w4 ⟨rfl, q4, r4⟩
    have z4 := hid (kept_at (heap_new w3 new0) r4 (by rw [size_new]; omega))
    have r4' : Below w3.heap.size w3 w4 := (below_alloc w3 new0).trans (r4.mono (by rw [size_new]; omega))
    have A4 := hid (A3.out.keep r4' (by have := own_lt A3.out; omega))
    have M4 := hid (M3.out.keep r4' (by have := own_lt M3.out; omega))
    have L4 := hid (Q3.out.keep r4' (by have := own_lt Q3.out; omega))
    rw [size_new] at q4
    have O4 := hid q4
    have R4 := hid (R3.out.trans (r4'.mono R3.out.size))
    have k3 := hid (own_lt Q3.out)
    clear q4 r4 r4' A3 M3 Q3 R3
    go_wp2_with fail
    refine (c_addAt w3.heap.size w4 z4.out M4.out O4.out bM lt_one).mono ?_
    rintro e w5 ⟨rfl, q5, r5⟩
    have A5 := hid (A4.out.keep r5 (by have := k3.out; have := own_lt A4.out; have := hlt.out; have := n2.out; omega))
    have L5 := hid (L4.out.keep r5 (Nat.le_refl _))
    have Q5 := hid q5
    have R5 := hid (R4.out.trans (r5.mono (by have := k3.out; have := hlt.out; have := n2.out; omega)))
    clear q5 r5 A4 M4 L4 O4 R4 z4
    go_wp2_with fail
    refine (c_lsh s w5 Q5.out b2 (Nat.le_trans hs (by decide))).mono ?_
    rintro e w6 ⟨rfl, q6, r6⟩
    have A6 := hid (A5.out.keep r6 (by have := own_lt A5.out; omega))
    have L6 := hid (L5.out.keep r6 (by have := own_lt L5.out; omega))
    have Q6 := hid q6
    have R6 := hid (R5.out.trans (r6.mono R5.out.size))
    have k5 := hid (own_lt Q5.out)
    clear q6 r6 A5 L5 Q5 R5
    go_wp2_with fail
    refine (c_cmp w6 L6.out A6.out (by have := k3.out; have := hlt.out; have := n2.out; omega) b1 bv).mono ?_
    rintro e w7 ⟨rfl, d, rfl⟩
    rw [if_neg (by decide), h1 ()]
    have A7 := hid (A6.out.keep (Below.drewN' w6.heap.size w6 d) (by have := own_lt A6.out; omega))
    have Q7 := hid (Q6.out.keep (Below.drewN' w6.heap.size w6 d) (Nat.le_refl _))
    clear A6 L6 Q6
    go_wp2_with fail
    refine (c_cmp (w6.drewN d) A7.out Q7.out (by have := k3.out; have := hlt.out; have := k5.out; have := n2.out; omega) bv b3).mono ?_
    rintro e w8 ⟨rfl, d', rfl⟩
    rw [if_neg (by decide), h2 ()]
    clear A7 Q7
    go_wp2_with fail
    go_ret
    exact ⟨rfl, R6.out.trans (Below.drewN' _ _ _)⟩

set_option maxHeartbeats 8000000 in
theorem around_half (hr : (r == 2) = false) (bv2 : Lt100 (v * 2 ^ 1)) (bM2 : Lt100 (M * 2 ^ 1)) (b1 : Lt100 (M * 2 ^ 1 + 1)) (b2 : Lt100 ((M * 2 ^ 1 + 1) * 2 ^ s)) (b3 : Lt100 (M * 2 ^ 1 - 1)) (b4 : Lt100 ((M * 2 ^ 1 - 1) * 2 ^ s))
    (c1 c2 : Int) (h1 : Unit → 0 < M → cmpN ((M * 2 ^ 1 - 1) * 2 ^ s) (v * 2 ^ 1) = c1) (h2 : Unit → cmpN (v * 2 ^ 1) ((M * 2 ^ 1 + 1) * 2 ^ s) = c2) (z0 al ah : Bool) (hr0 : (r == 0) = z0)
    (k1 : Unit → 0 < M → (c1 ≤ 0) = True) (ka : Unit → 0 < M → (c1 == 0) = al) (ka0 : Unit → M = 0 → al = false) (k2 : (0 < c2) = False) (kz : Unit → z0 = true → (c2 < 0) = True) (kh : (c2 == 0) = ah) (ke : Unit → z0 = false → (al || ah) = true → ((M : Int) % 2 = 0)) :
    Calls Yba.prog 17 #[.pointer (some ⟨bx, 0, none⟩), .int .u64 (s : Int), .int .i64 m, .int .i64 r] w fun e w' => .returned (.bool true) = e ∧ Below w.heap.size w w' := by
  have hp' := hp.out
  clear hp
  rcases hp' with ⟨p1, p2, p3⟩ | ⟨p1, p2, p3, z, p4, p5⟩ | ⟨p1, p2, p3, p4⟩
  all_goals
    go_enter Yba.func17, Yba.ntmps17
    go_wp2_with fail
    refine SG.out.mono ?_
    rintro e w' ⟨rfl, rfl⟩
    go_wp2_with fail
    refine (c_abs w hx.out bv).mono ?_
    rintro e w1 ⟨rfl, q1, r1⟩
    have Q1 := hid q1
    have R1 := hid r1
    clear q1 r1
    go_wp2_with fail
    refine (c_setU M (hM ()) w1).mono ?_
    rintro e w2 ⟨rfl, q2, r2⟩
    have A2 := hid (Q1.out.keep r2 (Nat.le_refl _))
    have Q2 := hid q2.own
    have R2 := hid (R1.out.trans (r2.mono R1.out.size))
    have hlt := hid (own_lt Q1.out)
    have n2 := hid (own_lt q2.own)
    clear q2 r2 Q1 R1
    go_wp2_with fail
    refine (c_lsh 1 w2 A2.out bv (by decide)).mono ?_
    rintro e w3 ⟨rfl, q3, r3⟩
    have M3 := hid (Q2.out.keep r3 (Nat.le_refl _))
    have V3 := hid q3
    have R3 := hid (R2.out.trans (r3.mono R2.out.size))
    have n3 := hid (own_lt q3)
    clear q3 r3 A2 Q2 R2
    go_wp2_with fail
    refine (c_lsh 1 w3 M3.out bM (by decide)).mono ?_
    rintro e w4 ⟨rfl, q4, r4⟩
    have V4 := hid (V3.out.keep r4 (Nat.le_refl _))
    have D4 := hid q4
    have R4 := hid (R3.out.trans (r4.mono R3.out.size))
    have n4 := hid (own_lt q4)
    clear q4 r4 V3 M3 R3
    go_wp2_with fail
    refine (c_one ((w4.alloc new0).alloc new0)).mono ?_
    rintro e w5 ⟨rfl, q5, r5⟩
    have t1 : ((w4.alloc new0).alloc new0).heap.size = w4.heap.size + 1 + 1 := by rw [size_new, size_new]
    have t2 : ((w4.alloc new0).alloc new0).heap[w4.heap.size]? = some new0 := row_alloc (heap_new w4 new0)
    have t3 : ((w4.alloc new0).alloc new0).heap[w4.heap.size + 1]? = some new0 := by
      have := heap_new (w4.alloc new0) new0
      rw [size_new] at this
      exact this
    have z5 := hid (kept_at t2 r5 (by omega))
    have y5 := hid (kept_at t3 r5 (by omega))
    have r5' : Below w4.heap.size w4 w5 := ((below_alloc w4 new0).trans ((below_alloc (w4.alloc new0) new0).mono (by rw [size_new]; omega))).trans (r5.mono (by omega))
    have V5 := hid (V4.out.keep r5' (by have := own_lt V4.out; omega))
    have D5 := hid (D4.out.keep r5' (by have := own_lt D4.out; omega))
    rw [t1] at q5
    have O5 := hid q5
    have R5 := hid (R4.out.trans (r5'.mono R4.out.size))
    have n5 := hid (own_lt q5)
    clear q5 r5 r5' t1 t2 t3 V4 D4 R4
    go_wp2_with fail
    refine (c_addAt (w4.heap.size + 1) w5 y5.out D5.out O5.out bM2 lt_one).mono ?_
    rintro e w6 ⟨rfl, q6, r6⟩
    have V6 := hid (V5.out.keep r6 (by have := own_lt V5.out; have := n4.out; omega))
    have D6 := hid (D5.out.keep r6 (by have := own_lt D5.out; omega))
    have z6 := hid (kept_at z5.out r6 (by omega))
    have E6 := hid q6
    have R6 := hid (R5.out.trans (r6.mono (by have := hlt.out; have := n2.out; have := n3.out; have := n4.out; omega)))
    clear q6 r6 V5 D5 R5 z5 y5 O5
    go_wp2_with fail
    refine (c_lshAt w4.heap.size s w6 z6.out E6.out (by omega) b1 (Nat.le_trans hs (by decide))).mono ?_
    rintro e w7 ⟨rfl, q7, r7⟩
    have V7 := hid (V6.out.keep r7 (by have := n4.out; omega))
    have D7 := hid (D6.out.keep r7 (Nat.le_refl _))
    have U7 := hid q7
    have R7 := hid (R6.out.trans (r7.mono (by have := hlt.out; have := n2.out; have := n3.out; have := n4.out; omega)))
    have n7 := hid (own_lt q7)
    clear q7 r7 V6 D6 R6 z6 E6
    rcases Nat.eq_zero_or_pos M with hz | hpos
    · have ka0' := ka0 () hz
      clear ka0 ka k1
      subst hz ka0'
      go_wp2_with fail
      refine (c_cmp w7 V7.out U7.out (by have := n3.out; have := n4.out; omega) bv2 b2).mono ?_
      rintro e wa ⟨rfl, d, rfl⟩
      rw [if_neg (by decide), h2 ()]
      clear V7 U7 h1 h2 bv bM b1 b2 b3 b4 bv2 bM2 hM hs
      cases z0
      · have ke' := ke () rfl
        clear ke kz
        cases ah
        · go_wp2
          go_ret
          exact ⟨rfl, R7.out.trans (Below.drewN' _ _ _)⟩
        · have ke2 := ke' rfl
          go_wp2
          go_ret
          exact ⟨rfl, R7.out.trans (Below.drewN' _ _ _)⟩
      · have kz' := kz () rfl
        clear ke kz
        go_wp2
        go_ret
        exact ⟨by first | rfl | simp, R7.out.trans (Below.drewN' _ _ _)⟩
    · have ka' := ka () hpos
      have k1' := k1 () hpos
      have h1' : Unit → cmpN ((M * 2 ^ 1 - 1) * 2 ^ s) (v * 2 ^ 1) = c1 := fun _ => h1 () hpos
      have hpos' : Unit → ¬ M * 2 ^ 1 < 1 := fun _ => by omega
      clear ka0 ka k1 h1
      go_wp2_with fail
      refine (c_one ((w7.alloc new0).alloc new0)).mono ?_
      rintro e w8 ⟨rfl, q8, r8⟩
      have t1 : ((w7.alloc new0).alloc new0).heap.size = w7.heap.size + 1 + 1 := by rw [size_new, size_new]
      have t2 : ((w7.alloc new0).alloc new0).heap[w7.heap.size]? = some new0 := row_alloc (heap_new w7 new0)
      have t3 : ((w7.alloc new0).alloc new0).heap[w7.heap.size + 1]? = some new0 := by
        have := heap_new (w7.alloc new0) new0
        rw [size_new] at this
        exact this
      have z8 := hid (kept_at t2 r8 (by omega))
      have y8 := hid (kept_at t3 r8 (by omega))
      have r8' : Below w7.heap.size w7 w8 := ((below_alloc w7 new0).trans ((below_alloc (w7.alloc new0) new0).mono (by rw [size_new]; omega))).trans (r8.mono (by omega))
      have V8 := hid (V7.out.keep r8' (by have := own_lt V7.out; omega))
      have D8 := hid (D7.out.keep r8' (by have := own_lt D7.out; omega))
      have U8 := hid (U7.out.keep r8' (by have := own_lt U7.out; omega))
      rw [t1] at q8
      have O8 := hid q8
      have R8 := hid (R7.out.trans (r8'.mono R7.out.size))
      have n8 := hid (own_lt q8)
      clear q8 r8 r8' t1 t2 t3 V7 D7 R7 U7
      go_wp2_with fail
      refine (c_subAt (w7.heap.size + 1) w8 y8.out D8.out O8.out bM2 lt_one).mono ?_
      rintro e w9 ⟨rfl, q9, r9⟩
      rw [if_neg (hpos' ()), decide_eq_false (hpos' ())] at q9
      have V9 := hid (V8.out.keep r9 (by have := n4.out; have := n7.out; omega))
      have U9 := hid (U8.out.keep r9 (by omega))
      have z9 := hid (kept_at z8.out r9 (by omega))
      have E9 := hid q9
      have R9 := hid (R8.out.trans (r9.mono (by have := hlt.out; have := n2.out; have := n3.out; have := n4.out; have := n7.out; omega)))
      clear q9 r9 V8 D8 R8 z8 y8 O8 U8
      go_wp2_with fail
      refine (c_lshAt w7.heap.size s w9 z9.out E9.out (by omega) b3 (Nat.le_trans hs (by decide))).mono ?_
      rintro e w10 ⟨rfl, q10, r10⟩
      have V10 := hid (V9.out.keep r10 (by have := n4.out; have := n7.out; omega))
      have U10 := hid (U9.out.keep r10 (Nat.le_refl _))
      have L10 := hid q10
      have R10 := hid (R9.out.trans (r10.mono (by have := hlt.out; have := n2.out; have := n3.out; have := n4.out; have := n7.out; omega)))
      clear q10 r10 V9 R9 z9 E9 U9
      go_wp2_with fail
      refine (c_cmp w10 L10.out V10.out (by have := n3.out; have := n4.out; have := n7.out; omega) b4 bv2).mono ?_
      rintro e w11 ⟨rfl, d0, rfl⟩
      rw [if_neg (by decide), h1' ()]
      have V11 := hid (V10.out.keep (Below.drewN' w10.heap.size w10 d0) (by have := own_lt V10.out; omega))
      have U11 := hid (U10.out.keep (Below.drewN' w10.heap.size w10 d0) (by have := own_lt U10.out; omega))
      clear V10 U10 L10
      go_wp2_with fail
      refine (c_cmp (w10.drewN d0) V11.out U11.out (by have := n3.out; have := n4.out; omega) bv2 b2).mono ?_
      rintro e wa ⟨rfl, d, rfl⟩
      rw [if_neg (by decide), h2 ()]
      clear V11 U11 h1' h2 bv bM b1 b2 b3 b4 bv2 bM2 hM hs
      cases z0
      · have ke' := ke () rfl
        clear ke kz
        cases al
        · cases ah
          · go_wp2
            go_ret
            exact ⟨rfl, R10.out.trans (Below.drewN' _ _ _)⟩
          · have ke2 := ke' rfl
            go_wp2
            go_ret
            exact ⟨by first | rfl | simp [ke2], R10.out.trans (Below.drewN' _ _ _)⟩
        · have ke2 := ke' rfl
          go_wp2
          go_ret
          exact ⟨by first | rfl | simp [ke2], R10.out.trans (Below.drewN' _ _ _)⟩
      · have kz' := kz () rfl
        clear ke kz
        go_wp2
        go_ret
        exact ⟨by first | rfl | simp, R10.out.trans (Below.drewN' _ _ _)⟩
end
end Go.Proofs.Ybulkanxo
