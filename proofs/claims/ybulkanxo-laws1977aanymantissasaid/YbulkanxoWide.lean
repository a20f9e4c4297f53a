/-
  LawS1977BWide: the walk.
-/
import Derived.Test.YbulkanxoLshSelf
import Derived.Test.YbulkanxoDecimal
namespace Go.Proofs.Ybulkanxo
open Go.RowKit
set_option linter.unusedVariables false

theorem below_of_fr {w w' : World} (h : Fr (fun _ => False) w w') : Below w.heap.size w w' := h.below (Nat.le_refl _) (fun _ f => f.elim)
theorem one_word {cs : List Nat} (h : 1 ≤ cs.length) : val (cs.take 1) = cs.getD 0 0 := by
  rw [val_take_succ cs 0 h]; simp [val]

theorem over_neg (v : Int) (h1 : 9223372036854775807 < v) (h2 : v < 18446744073709551616) : wrap64 v < 0 := by unfold wrap64; omega
theorem over_ne (v : Int) (h1 : 9223372036854775807 < v) (h2 : v < 18446744073709551616) (h3 : v ≠ 9223372036854775808) : (wrap64 v == wrap64 (-(wrap64 v))) = false := by
  have : wrap64 v ≠ wrap64 (-(wrap64 v)) := by unfold wrap64; omega
  simpa using this
/-- What decimalOf makes of an Int in memory. -/
theorem c_dec_fit {lo hi b v : Nat} {neg : Bool} (k : Int) (w : World) (hx : OwnG true w lo hi b neg v) (hn : neg = true → 0 < v) (hf : v ≤ 9223372036854775807 ∨ (neg = true ∧ v = 9223372036854775808)) :
    Calls Yba.prog 9 #[.pointer (some ⟨b, 0, none⟩), .int .i64 k] w fun e w' => e = .returned (.agg #[.int .i64 (if neg then -(v : Int) else v), .pointer none, .int .i64 k]) ∧ Below w.heap.size w w' := by
  obtain ⟨X, h1, h2, h3, h4, h5, h6, h7⟩ := hx
  have hl : X.len ≤ 1 := X.len_le h1.ok (by rw [h2]; unfold B; omega)
  have c0 := hdr_neg h1.hdr
  have c1 := hdr_abs h1.hdr
  cases X with
  | nil =>
    have hv : v = 0 := h2.symm
    subst hv
    have hneg : neg = false := by cases neg; rfl; exact absurd (hn rfl) (by omega)
    subst hneg
    exact (dec_nil b k w c0 c1 (by omega)).mono fun _ _ ⟨a, b⟩ => ⟨a, below_of_fr b⟩
  | blk g cs n =>
    obtain ⟨x1, x2, x3, x4⟩ := h1.ok
    have hn0 : n ≠ 0 := by
      intro h
      subst h
      have := h7 rfl h2.symm
      cases this
    obtain rfl : n = 1 := by have : n ≤ 1 := hl; omega
    have hd : cs.getD 0 0 = v := by rw [← one_word x3]; exact h2
    have cg : w.cell? ⟨g, 0, none⟩ = some (.int .u64 (v : Int)) := by rw [← hd]; exact row_cell x1 (by omega)
    have hg := lt_of_block x1
    rcases hf with hf | ⟨hneg, hf⟩
    · exact (dec_fits b g cs.length neg v _ k w c0 c1 cg (by omega) hg (by omega) (by omega) rfl).mono fun _ _ ⟨a, b⟩ => ⟨a, below_of_fr b⟩
    · subst hneg
      have e : (if true = true then -(v : Int) else v) = -9223372036854775808 := by rw [if_pos rfl]; omega
      rw [e]
      exact (dec_min b g cs.length v (-9223372036854775808) k w c0 c1 cg (by omega) hg (by omega) (by unfold wrap64; omega) (by unfold wrap64; omega)).mono fun _ _ ⟨a, b⟩ => ⟨a, below_of_fr b⟩
theorem c_dec_over {lo hi b v : Nat} {neg : Bool} (k : Int) (w : World) (hx : OwnG true w lo hi b neg v) (hv : v < B ^ 100) (h1' : 9223372036854775807 < v) (h2' : neg = true → v ≠ 9223372036854775808) :
    Calls Yba.prog 9 #[.pointer (some ⟨b, 0, none⟩), .int .i64 k] w fun e w' => e = .returned (.agg #[.int .i64 0, .pointer (some ⟨b, 0, none⟩), .int .i64 k]) ∧ Below w.heap.size w w' := by
  obtain ⟨X, h1, h2, h3, h4, h5, h6, h7⟩ := hx
  have hl := len_bound h1.ok h2 hv
  have c0 := hdr_neg h1.hdr
  have c1 := hdr_abs h1.hdr
  cases X with
  | nil =>
    have hv0 : v = 0 := h2.symm
    clear hv
    omega
  | blk g cs n =>
    obtain ⟨x1, x2, x3, x4⟩ := h1.ok
    have hn0 : n ≠ 0 := by
      intro h
      subst h
      have := h7 rfl h2.symm
      cases this
    have hl' : n ≤ 100 := hl
    by_cases hn1 : n = 1
    · subst hn1
      have hd : cs.getD 0 0 = v := by rw [← one_word x3]; exact h2
      have hdB : v < B := by rw [← hd]; exact x2.getD 0
      have cg : w.cell? ⟨g, 0, none⟩ = some (.int .u64 (v : Int)) := by rw [← hd]; exact row_cell x1 (by omega)
      have g1 : (9223372036854775807 : Int) < (v : Int) := by clear hv; omega
      have g2 : (v : Int) < 18446744073709551616 := by clear hv; unfold B at hdB; omega
      have hbw : b < w.heap.size := by clear hv g1 g2; omega
      exact (dec_over b g cs.length neg v (wrap64 v) (wrap64 (-(wrap64 v))) k w c0 c1 cg hbw (lt_of_block x1) (over_neg _ g1 g2) rfl rfl (fun hneg => over_ne _ g1 g2 (fun e => h2' hneg (by clear hv; omega)))).mono fun _ _ ⟨a, b⟩ => ⟨a, below_of_fr b⟩
    · clear hv
      exact (dec_long b n cs.length _ neg k w c0 c1 (by omega) (by omega) (by omega)).mono fun _ _ ⟨a, b⟩ => ⟨a, below_of_fr b⟩

/-- A bound that the walk needs not look into. -/
def Lt100 (v : Nat) : Prop := v < B ^ 100
theorem lt100 {v : Nat} (h : v < B ^ 5) : Lt100 v := Nat.lt_of_lt_of_le h (Nat.pow_le_pow_right B_pos (by decide))
theorem two_lt (hi lo : Nat) (h1 : hi < B) (h2 : lo < B) : hi * 2 ^ 64 + lo < B ^ 5 := by unfold B at *; omega
theorem hi_lt (hi : Nat) (h1 : hi < B) : hi * 2 ^ 64 < B ^ 5 := by unfold B at *; omega
theorem word_lt5 (a : Nat) (h1 : a < B) : a < B ^ 5 := by unfold B at *; omega

theorem Below.drewN' (Bb : Nat) (w : World) (d : Nat) : Below Bb w (w.drewN d) := ⟨rfl, rfl, rfl, Nat.le_refl _, fun _ _ => rfl⟩

set_option maxHeartbeats 4000000 in
theorem wide_pos (hi lo : Nat) (k : Int) (w : World) (h1 : hi < B) (h2 : lo < B) :
    Calls Yba.prog 6 #[.int .u64 (hi : Int), .int .u64 (lo : Int), .bool false, .int .i64 k] w fun e w' => e = .returned (.bool true) ∧ Below w.heap.size w w' := by
  have b1 := lt100 (word_lt5 hi h1)
  have b2 := lt100 (word_lt5 lo h2)
  have b3 := lt100 (hi_lt hi h1)
  have b4 := lt100 (two_lt hi lo h1 h2)
  obtain ⟨V, hV⟩ : ∃ V, V = hi * 2 ^ 64 + lo := ⟨_, rfl⟩
  rw [← hV] at b4
  have HV := hid hV
  clear hV
  go_enter Yba.func6, Yba.ntmps6
  go_wp2_with fail
  refine (c_setU hi h1 w).mono ?_
  rintro e w1 ⟨rfl, q1, r1⟩
  go_wp2_with fail
  refine (c_lsh64 w1 q1).mono ?_
  rintro e w2 ⟨rfl, q2, r2⟩
  go_wp2_with fail
  refine (c_setU lo h2 w2).mono ?_
  rintro e w3 ⟨rfl, q3, r3⟩
  go_wp2_with fail
  refine (c_addSelf w3 (q2.keep r3 (Nat.le_refl _)) q3.own b3 b2).mono ?_
  rintro e w4 ⟨rfl, q4, r4⟩
  rw [← HV.out] at q4
  have s4 : Below w.heap.size w w4 := ((r1.trans r2).trans (r3.mono (Nat.le_trans r1.size r2.size))).trans r4
  clear q1 q2 q3 r1 r2 r3 r4
  go_wp2_with fail
  refine (c_setU hi h1 w4).mono ?_
  rintro e w5 ⟨rfl, q5, r5⟩
  go_wp2_with fail
  refine (c_lsh64 w5 q5).mono ?_
  rintro e w6 ⟨rfl, q6, r6⟩
  go_wp2_with fail
  refine (c_setU lo h2 w6).mono ?_
  rintro e w7 ⟨rfl, q7, r7⟩
  go_wp2_with fail
  refine (c_addSelf w7 (q6.keep r7 (Nat.le_refl _)) q7.own b3 b2).mono ?_
  rintro e w8 ⟨rfl, q8, r8⟩
  rw [← HV.out] at q8
  have s8 : Below w4.heap.size w4 w8 := ((r5.trans r6).trans (r7.mono (Nat.le_trans r5.size r6.size))).trans r8
  have x8 := q4.keep s8 (Nat.le_refl _)
  have s8' : Below w.heap.size w w8 := s4.trans (s8.mono s4.size)
  have hne : w.heap.size ≠ w4.heap.size := by obtain ⟨X, hX⟩ := q4; omega
  have HNE := hid hne
  clear q4 q5 q6 q7 r5 r6 r7 r8 s4 s8 hne
  by_cases c1 : hi = 0
  · subst c1
    have hVl : V = lo := by rw [HV.out]; omega
    subst hVl
    by_cases c2 : V ≤ 9223372036854775807
    · have c2' : (V : Int) ≤ 9223372036854775807 := by omega
      go_wp2_with fail
      refine (c_dec_fit k w8 x8 (fun h => by cases h) (.inl c2)).mono ?_
      rintro e w9 ⟨rfl, r9⟩
      have s9 : Below w.heap.size w w9 := s8'.trans (r9.mono s8'.size)
      go_wp2
      go_ret
      exact ⟨rfl, s9.alloc s9.size _⟩
    · have c2' : ¬ (V : Int) ≤ 9223372036854775807 := by omega
      go_wp2_with fail
      refine (c_dec_over k w8 x8 b4 (by omega) (fun h => by cases h)).mono ?_
      rintro e w9 ⟨rfl, r9⟩
      have s9 : Below w.heap.size w w9 := s8'.trans (r9.mono s8'.size)
      have hps := fun wx => (ptr_same wx ⟨w.heap.size, 0, none⟩).1
      have hce := cmpN_eq V
      go_wp2_with fail
      refine (c_cmp _ ((x8.keep r9 (Nat.le_trans (by obtain ⟨X, hX⟩ := x8; omega) (Nat.le_refl _))).keep (below_alloc w9 _) (by obtain ⟨X, hX⟩ := x8; have := r9.size; omega)) ((q8.keep r9 (Nat.le_refl _)).keep (below_alloc w9 _) r9.size) HNE.out b4 b4).mono ?_
      rintro e w10 ⟨rfl, d, rfl⟩
      go_wp2
      go_ret
      exact ⟨rfl, (s9.alloc s9.size _).trans (Below.drewN' _ _ _)⟩
  · have c1' : ((hi : Int) == 0) = false := by simp; omega
    have hbig : 9223372036854775808 < V := by rw [HV.out]; omega
    go_wp2_with fail
    refine (c_dec_over k w8 x8 b4 (by omega) (fun h => by cases h)).mono ?_
    rintro e w9 ⟨rfl, r9⟩
    have s9 : Below w.heap.size w w9 := s8'.trans (r9.mono s8'.size)
    have hps := fun wx => (ptr_same wx ⟨w.heap.size, 0, none⟩).1
    have hce := cmpN_eq V
    go_wp2_with fail
    refine (c_cmp _ ((x8.keep r9 (Nat.le_trans (by obtain ⟨X, hX⟩ := x8; omega) (Nat.le_refl _))).keep (below_alloc w9 _) (by obtain ⟨X, hX⟩ := x8; have := r9.size; omega)) ((q8.keep r9 (Nat.le_refl _)).keep (below_alloc w9 _) r9.size) HNE.out b4 b4).mono ?_
    rintro e w10 ⟨rfl, d, rfl⟩
    go_wp2
    go_ret
    exact ⟨rfl, (s9.alloc s9.size _).trans (Below.drewN' _ _ _)⟩
end Go.Proofs.Ybulkanxo
