/-
  zzs1977acheck: the walk.
-/
import Derived.Test.YbulkanxoAroundC
import Derived.Test.YbulkanxoAccrC
namespace Go.Proofs.Ybulkanxo
open Go.RowKit
set_option linter.unusedVariables false

section
variable (a hi lo : Nat) (exp r : Int) (w : World)

set_option maxHeartbeats 2000000 in
theorem check_out (A : Hid (Calls Yba.prog 15 #[.int .u64 (a : Int), .agg #[.int .u64 (hi : Int), .int .u64 (lo : Int), .int .i64 exp], .int .i64 r] w fun e w' => AccrOut w w' 0 0 false e)) (hexp : exp < -63 ∨ 127 < exp) :
    Calls Yba.prog 7 #[.int .u64 (a : Int), .int .u64 (hi : Int), .int .u64 (lo : Int), .int .i64 exp, .int .i64 r] w fun e w' => .returned (.bool true) = e ∧ Below w.heap.size w w' := by
  rcases hexp with h | h
  all_goals
    go_enter Yba.func7, Yba.ntmps7
    go_wp2_with fail
    refine A.out.mono ?_
    rintro e w1 ⟨rfl, f1⟩
    have F1 := hid f1
    clear f1
    go_wp2_with fail
    go_ret
    exact ⟨rfl, below_of_fr F1.out⟩

variable (s s62 X : Nat) (i d c : Int) (ok : Bool)
  (hs : wrap64 (128 - exp) = (s : Int)) (hs1 : 1 ≤ s) (hs2 : s ≤ 191) (he : (exp < -63) = False) (he2 : (127 < exp) = False) (h62 : IntKind.u64.wrap (62 + (s : Int)) = (s62 : Int)) (h62' : Unit → s62 ≤ 1000)
  (E : Hid (∀ wx, Calls Yba.prog 16 #[.int .u64 (a : Int), .int .u64 (hi : Int), .int .u64 (lo : Int)] wx fun e w' => ∃ bx, .returned (.pointer (some ⟨bx, 0, none⟩)) = e ∧ OwnG true w' wx.heap.size w'.heap.size bx false X ∧ Below wx.heap.size wx w'))
  (bX : Lt100 X) (bL : Lt100 (1 * 2 ^ s62)) (hc : Unit → cmpN X (1 * 2 ^ s62) = c)
include hs hs1 hs2 he he2 h62 h62' E bX bL hc

set_option maxHeartbeats 4000000 in
theorem check_no (A : Hid (Calls Yba.prog 15 #[.int .u64 (a : Int), .agg #[.int .u64 (hi : Int), .int .u64 (lo : Int), .int .i64 exp], .int .i64 r] w fun e w' => AccrOut w w' 0 0 false e)) (k : (c < 0) = False) :
    Calls Yba.prog 7 #[.int .u64 (a : Int), .int .u64 (hi : Int), .int .u64 (lo : Int), .int .i64 exp, .int .i64 r] w fun e w' => .returned (.bool true) = e ∧ Below w.heap.size w w' := by
  go_enter Yba.func7, Yba.ntmps7
  go_wp2_with fail
  refine A.out.mono ?_
  rintro e w1 ⟨rfl, f1⟩
  have F1 := hid (below_of_fr f1)
  clear f1
  go_wp2_with fail
  refine (E.out w1).mono ?_
  rintro e w2 ⟨bx, rfl, q2, r2⟩
  have Q2 := hid q2
  have R2 := hid (F1.out.trans (r2.mono F1.out.size))
  have n2 := hid (own_lt q2)
  clear q2 r2 F1
  go_wp2_with fail
  refine (c_one (w2.alloc new0)).mono ?_
  rintro e w3 ⟨rfl, q3, r3⟩
  have z3 := hid (kept_at (heap_new w2 new0) r3 (by rw [size_new]; omega))
  have r3' : Below w2.heap.size w2 w3 := (below_alloc w2 new0).trans (r3.mono (by rw [size_new]; omega))
  have X3 := hid (Q2.out.keep r3' (Nat.le_refl _))
  rw [size_new] at q3
  have O3 := hid q3
  have R3 := hid (R2.out.trans (r3'.mono R2.out.size))
  clear q3 r3 r3' Q2
  go_wp2_with fail
  refine (c_lshAt w2.heap.size s62 w3 z3.out O3.out (by omega) lt_one (h62' ())).mono ?_
  rintro e w4 ⟨rfl, q4, r4⟩
  have X4 := hid (X3.out.keep r4 (Nat.le_refl _))
  have L4 := hid q4
  have R4 := hid (R3.out.trans (r4.mono R2.out.size))
  clear q4 r4 X3 O3 R3 z3
  go_wp2_with fail
  refine (c_cmp w4 X4.out L4.out (by have := n2.out; omega) bX bL).mono ?_
  rintro e w5 ⟨rfl, dd, rfl⟩
  rw [if_neg (by decide), hc ()]
  clear X4 L4 E A
  go_wp2_with fail
  go_ret
  exact ⟨rfl, R4.out.trans (Below.drewN' _ _ _)⟩

set_option maxHeartbeats 4000000 in
theorem check_yes (A : Hid (Calls Yba.prog 15 #[.int .u64 (a : Int), .agg #[.int .u64 (hi : Int), .int .u64 (lo : Int), .int .i64 exp], .int .i64 r] w fun e w' => AccrOut w w' i d true e)) (k : (c < 0) = True)
    (ha : Unit → a < B) (bA : Lt100 a) (bAs : Lt100 (a * 2 ^ s))
    (D : Hid (∀ (wx : World) (bx lx hx : Nat), OwnG true wx lx hx bx false X → Calls Yba.prog 17 #[.pointer (some ⟨bx, 0, none⟩), .int .u64 (s : Int), .int .i64 d, .int .i64 r] wx fun e w' => .returned (.bool true) = e ∧ Below wx.heap.size wx w'))
    (I : Hid (∀ (wx : World) (bx lx hx : Nat), OwnG false wx lx hx bx (decide (X < a * 2 ^ s)) (if X < a * 2 ^ s then a * 2 ^ s - X else X - a * 2 ^ s) → Calls Yba.prog 17 #[.pointer (some ⟨bx, 0, none⟩), .int .u64 (s : Int), .int .i64 i, .int .i64 r] wx fun e w' => .returned (.bool true) = e ∧ Below wx.heap.size wx w')) :
    Calls Yba.prog 7 #[.int .u64 (a : Int), .int .u64 (hi : Int), .int .u64 (lo : Int), .int .i64 exp, .int .i64 r] w fun e w' => .returned (.bool true) = e ∧ Below w.heap.size w w' := by
  go_enter Yba.func7, Yba.ntmps7
  go_wp2_with fail
  refine A.out.mono ?_
  rintro e w1 ⟨rfl, f1⟩
  have F1 := hid (below_of_fr f1)
  clear f1
  go_wp2_with fail
  refine (E.out w1).mono ?_
  rintro e w2 ⟨bx, rfl, q2, r2⟩
  have Q2 := hid q2
  have R2 := hid (F1.out.trans (r2.mono F1.out.size))
  have n2 := hid (own_lt q2)
  clear q2 r2 F1
  go_wp2_with fail
  refine (c_one (w2.alloc new0)).mono ?_
  rintro e w3 ⟨rfl, q3, r3⟩
  have z3 := hid (kept_at (heap_new w2 new0) r3 (by rw [size_new]; omega))
  have r3' : Below w2.heap.size w2 w3 := (below_alloc w2 new0).trans (r3.mono (by rw [size_new]; omega))
  have X3 := hid (Q2.out.keep r3' (Nat.le_refl _))
  rw [size_new] at q3
  have O3 := hid q3
  have R3 := hid (R2.out.trans (r3'.mono R2.out.size))
  clear q3 r3 r3' Q2
  go_wp2_with fail
  refine (c_lshAt w2.heap.size s62 w3 z3.out O3.out (by omega) lt_one (h62' ())).mono ?_
  rintro e w4 ⟨rfl, q4, r4⟩
  have X4 := hid (X3.out.keep r4 (Nat.le_refl _))
  have L4 := hid q4
  have R4 := hid (R3.out.trans (r4.mono R2.out.size))
  have n4 := hid (own_lt q4)
  clear q4 r4 X3 O3 R3 z3
  go_wp2_with fail
  refine (c_cmp w4 X4.out L4.out (by have := n2.out; omega) bX bL).mono ?_
  rintro e w5 ⟨rfl, dd, rfl⟩
  rw [if_neg (by decide), hc ()]
  obtain ⟨w5, hw5⟩ : ∃ w5, w5 = w4.drewN dd := ⟨_, rfl⟩
  have b5 : Below w4.heap.size w4 w5 := by rw [hw5]; exact Below.drewN' _ _ _
  have R5 := hid (R4.out.trans (b5.mono R4.out.size))
  have X5 := hid (X4.out.keep b5 (by have := n4.out; omega))
  rw [← hw5]
  clear X4 L4 E A hw5
  go_wp2_with fail
  refine (D.out w5 bx _ _ X5.out).mono ?_
  rintro e w6 ⟨rfl, r6⟩
  have X6 := hid (X5.out.keep r6 (own_lt X5.out).2.2)
  have R6 := hid (R5.out.trans (r6.mono R5.out.size))
  clear r6 X5
  go_wp2_with fail
  have t1 : ((w6.alloc new0).alloc new0).heap.size = w6.heap.size + 1 + 1 := by rw [size_new, size_new]
  have t2 : ((w6.alloc new0).alloc new0).heap[w6.heap.size]? = some new0 := row_alloc (heap_new w6 new0)
  have t3 : ((w6.alloc new0).alloc new0).heap[w6.heap.size + 1]? = some new0 := by
    have := heap_new (w6.alloc new0) new0
    rw [size_new] at this
    exact this
  have cs := c_setU a (ha ()) ((w6.alloc new0).alloc new0)
  rw [t1] at cs
  refine cs.mono ?_
  clear cs
  rintro e w7 ⟨rfl, q7, r7⟩
  have z7 := hid (kept_at t2 r7 (by omega))
  have y7 := hid (kept_at t3 r7 (by omega))
  have r7' : Below w6.heap.size w6 w7 := ((below_alloc w6 new0).trans ((below_alloc (w6.alloc new0) new0).mono (by rw [size_new]; omega))).trans (r7.mono (by omega))
  have X7 := hid (X6.out.keep r7' (own_lt X6.out).2.2)
  have A7 := hid q7.own
  have R7 := hid (R6.out.trans (r7'.mono R6.out.size))
  have n6 := hid (own_lt X6.out).2.2
  clear q7 r7 r7' t1 t2 t3 X6
  go_wp2_with fail
  refine (c_lshAt (w6.heap.size + 1) s w7 y7.out A7.out (by omega) bA (Nat.le_trans hs2 (by decide))).mono ?_
  rintro e w8 ⟨rfl, q8, r8⟩
  have X8 := hid (X7.out.keep r8 (by have := n6.out; omega))
  have z8 := hid (kept_at z7.out r8 (by omega))
  have S8 := hid q8
  have R8 := hid (R7.out.trans (r8.mono (Nat.le_trans R6.out.size (by omega))))
  clear q8 r8 X7 z7 y7 A7 R7
  go_wp2_with fail
  refine (c_subAt w6.heap.size w8 z8.out X8.out S8.out bX bAs).mono ?_
  rintro e w9 ⟨rfl, q9, r9⟩
  have S9 := hid q9
  have R9 := hid (R8.out.trans (r9.mono R6.out.size))
  clear q9 r9 X8 z8 S8 R8
  go_wp2_with fail
  refine (I.out w9 _ _ _ S9.out).mono ?_
  rintro e w10 ⟨rfl, r10⟩
  have R10 := hid (R9.out.trans (r10.mono R9.out.size))
  clear r10 S9 R9
  go_wp2_with fail
  go_ret
  exact ⟨rfl, R10.out⟩
end
end Go.Proofs.Ybulkanxo
