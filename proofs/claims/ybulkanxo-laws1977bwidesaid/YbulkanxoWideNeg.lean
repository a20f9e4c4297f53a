/-
  LawS1977BWide: the walk, neg = true; and both together.
-/
import Derived.Test.YbulkanxoWide
namespace Go.Proofs.Ybulkanxo
open Go.RowKit
set_option linter.unusedVariables false

set_option maxHeartbeats 4000000 in
theorem wide_neg (hi lo : Nat) (k : Int) (w : World) (h1 : hi < B) (h2 : lo < B) :
    Calls Yba.prog 6 #[.int .u64 (hi : Int), .int .u64 (lo : Int), .bool true, .int .i64 k] w fun e w' => e = .returned (.bool true) ∧ Below w.heap.size w w' := by
  have b1 := lt100 (word_lt5 hi h1)
  have b2 := lt100 (word_lt5 lo h2)
  have b3 := lt100 (hi_lt hi h1)
  have b4 := lt100 (two_lt hi lo h1 h2)
  obtain ⟨V, hV⟩ : ∃ V, V = hi * 2 ^ 64 + lo := ⟨_, rfl⟩
  rw [← hV] at b4
  have HV := hid hV
  clear hV
  go_enter Yba.func6, Yba.ntmps6
  go_wp2_with fail
  refine (c_setU hi h1 w).mono ?_
  rintro e w1 ⟨rfl, q1, r1⟩
  go_wp2_with fail
  refine (c_lsh64 w1 q1).mono ?_
  rintro e w2 ⟨rfl, q2, r2⟩
  go_wp2_with fail
  refine (c_setU lo h2 w2).mono ?_
  rintro e w3 ⟨rfl, q3, r3⟩
  go_wp2_with fail
  refine (c_addSelf w3 (q2.keep r3 (Nat.le_refl _)) q3.own b3 b2).mono ?_
  rintro e w4a ⟨rfl, q4a, r4a⟩
  rw [← HV.out] at q4a
  go_wp2_with fail
  refine (c_neg w4a q4a b4).mono ?_
  rintro e w4 ⟨rfl, q4, r4⟩
  have s4 : Below w.heap.size w w4 := (((r1.trans r2).trans (r3.mono (Nat.le_trans r1.size r2.size))).trans r4a).trans r4
  have z4 : w4a.heap.size ≤ w4.heap.size := r4.size
  clear q1 q2 q3 r1 r2 r3 r4 r4a q4a
  go_wp2_with fail
  refine (c_setU hi h1 w4).mono ?_
  rintro e w5 ⟨rfl, q5, r5⟩
  go_wp2_with fail
  refine (c_lsh64 w5 q5).mono ?_
  rintro e w6 ⟨rfl, q6, r6⟩
  go_wp2_with fail
  refine (c_setU lo h2 w6).mono ?_
  rintro e w7 ⟨rfl, q7, r7⟩
  go_wp2_with fail
  refine (c_addSelf w7 (q6.keep r7 (Nat.le_refl _)) q7.own b3 b2).mono ?_
  rintro e w8a ⟨rfl, q8a, r8a⟩
  rw [← HV.out] at q8a
  go_wp2_with fail
  refine (c_neg w8a q8a b4).mono ?_
  rintro e w8 ⟨rfl, q8, r8⟩
  have s8 : Below w4.heap.size w4 w8 := (((r5.trans r6).trans (r7.mono (Nat.le_trans r5.size r6.size))).trans r8a).trans r8
  have x8 := q4.keep s8 z4
  have z8 : w8a.heap.size ≤ w8.heap.size := r8.size
  have s8' : Below w.heap.size w w8 := s4.trans (s8.mono s4.size)
  have hne : w.heap.size ≠ w4.heap.size := by obtain ⟨X, hX⟩ := q4; omega
  have HNE := hid hne
  clear q4 q5 q6 q7 r5 r6 r7 r8 r8a q8a s4 s8 hne
  obtain ⟨nb, hnb⟩ : ∃ nb, nb = decide (0 < V) := ⟨_, rfl⟩
  rw [← hnb] at x8 q8
  have hnb1 : nb = true → 0 < V := fun h => by rw [h] at hnb; exact of_decide_eq_true hnb.symm
  have HNB := hid hnb
  have HN1 := hid hnb1
  clear hnb hnb1
  by_cases c1 : hi = 0
  · subst c1
    have hVl : V = lo := by rw [HV.out]; omega
    subst hVl
    by_cases c2 : V ≤ 9223372036854775807
    · have c2' : (V : Int) ≤ 9223372036854775807 := by omega
      have hu : (if nb = true then -(V : Int) else V) = -(V : Int) := by
        rw [HNB.out]
        by_cases h : V = 0
        · subst h; rfl
        · rw [if_pos (by simp; omega)]
      have hd := c_dec_fit k w8 x8 HN1.out (.inl c2)
      rw [hu] at hd
      have HD := hid hd
      clear hd hu
      go_wp2_with fail
      refine HD.out.mono ?_
      rintro e w9 ⟨rfl, r9⟩
      have s9 : Below w.heap.size w w9 := s8'.trans (r9.mono s8'.size)
      go_wp2
      go_ret
      exact ⟨rfl, s9.alloc s9.size _⟩
    · have hnt : nb = true := by rw [HNB.out]; simp; omega
      have c2' : ¬ (V : Int) ≤ 9223372036854775807 := by omega
      by_cases c3 : V = 9223372036854775808
      · have c3' : ((V : Int) == 9223372036854775808) = true := by simp; omega
        have e1 : wrap64 (V : Int) = -9223372036854775808 := by unfold wrap64; omega
        obtain ⟨m, hm⟩ : ∃ m : Int, m = -9223372036854775808 := ⟨_, rfl⟩
        have e2 : wrap64 (-m) = m := by rw [hm]; unfold wrap64; omega
        have hu : (if nb = true then -(V : Int) else V) = m := by rw [if_pos hnt, hm]; omega
        rw [← hm] at e1
        have hd := c_dec_fit k w8 x8 HN1.out (.inr ⟨hnt, c3⟩)
        rw [hu] at hd
        have HD := hid hd
        clear hd hu hm c3
        go_wp2_with fail
        refine HD.out.mono ?_
        rintro e w9 ⟨rfl, r9⟩
        have s9 : Below w.heap.size w w9 := s8'.trans (r9.mono s8'.size)
        go_wp2
        go_ret
        exact ⟨rfl, s9.alloc s9.size _⟩
      · have c3' : ((V : Int) == 9223372036854775808) = false := by simp; omega
        have hd := c_dec_over k w8 x8 b4 (by omega) (fun _ => c3)
        have HD := hid hd
        clear hd c3
        subst hnt
        go_wp2_with fail
        refine HD.out.mono ?_
        rintro e w9 ⟨rfl, r9⟩
        have s9 : Below w.heap.size w w9 := s8'.trans (r9.mono s8'.size)
        have hps := fun wx => (ptr_same wx ⟨w.heap.size, 0, none⟩).1
        have hce := cmpN_eq V
        go_wp2_with fail
        refine (c_cmp _ ((x8.keep r9 (by obtain ⟨X, hX⟩ := x8; omega)).keep (below_alloc w9 _) (by obtain ⟨X, hX⟩ := x8; have := r9.size; omega)) ((q8.keep r9 z8).keep (below_alloc w9 _) (Nat.le_trans z8 r9.size)) HNE.out b4 b4).mono ?_
        rintro e w10 ⟨rfl, d, rfl⟩
        go_wp2
        go_ret
        exact ⟨rfl, (s9.alloc s9.size _).trans (Below.drewN' _ _ _)⟩
  · have c1' : ((hi : Int) == 0) = false := by simp; omega
    have hbig : 9223372036854775808 < V := by rw [HV.out]; omega
    have hnt : nb = true := by rw [HNB.out]; simp; omega
    have hd := c_dec_over k w8 x8 b4 (by omega) (fun _ => by omega)
    have HD := hid hd
    clear hd
    subst hnt
    go_wp2_with fail
    refine HD.out.mono ?_
    rintro e w9 ⟨rfl, r9⟩
    have s9 : Below w.heap.size w w9 := s8'.trans (r9.mono s8'.size)
    have hps := fun wx => (ptr_same wx ⟨w.heap.size, 0, none⟩).1
    have hce := cmpN_eq V
    go_wp2_with fail
    refine (c_cmp _ ((x8.keep r9 (by obtain ⟨X, hX⟩ := x8; omega)).keep (below_alloc w9 _) (by obtain ⟨X, hX⟩ := x8; have := r9.size; omega)) ((q8.keep r9 z8).keep (below_alloc w9 _) (Nat.le_trans z8 r9.size)) HNE.out b4 b4).mono ?_
    rintro e w10 ⟨rfl, d, rfl⟩
    go_wp2
    go_ret
    exact ⟨rfl, (s9.alloc s9.size _).trans (Below.drewN' _ _ _)⟩

theorem wide_any (hi lo : Nat) (neg : Bool) (k : Int) (w : World) (h1 : hi < B) (h2 : lo < B) :
    Calls Yba.prog 6 #[.int .u64 (hi : Int), .int .u64 (lo : Int), .bool neg, .int .i64 k] w fun e w' => e = .returned (.bool true) ∧ Below w.heap.size w w' := by
  cases neg
  · exact wide_pos hi lo k w h1 h2
  · exact wide_neg hi lo k w h1 h2
end Go.Proofs.Ybulkanxo
