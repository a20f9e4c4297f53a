/-
  zzs1977aexact: the product, bit by bit.
-/
import Derived.Test.YbulkanxoAt
import Derived.Test.YbulkanxoCut
namespace Go.Proofs.Ybulkanxo
open Go.RowKit
set_option linter.unusedVariables false

theorem own_zero (w : World) : OwnG true (w.alloc new0) w.heap.size (w.alloc new0).heap.size w.heap.size false 0 :=
  ⟨.nil, ⟨heap_new w new0, trivial⟩, rfl, Nat.le_refl _, by rw [size_new]; omega, Nat.le_refl _, fun k hk => hk.elim, fun _ _ => rfl⟩

theorem bit_step (a k V : Nat) (h : a / 2 ^ k % 2 = 1) : a % 2 ^ k * V + V * 2 ^ k = a % 2 ^ (k + 1) * V := by
  rw [Nat.pow_succ, Nat.mod_mul, h, Nat.mul_one, Nat.add_mul, Nat.mul_comm V]
theorem bit_skip (a k V : Nat) (h : a / 2 ^ k % 2 = 0) : a % 2 ^ k * V = a % 2 ^ (k + 1) * V := by
  rw [Nat.pow_succ, Nat.mod_mul, h, Nat.mul_zero, Nat.add_zero]
theorem lt_mul5 (u V : Nat) (hu : u < B) (hV : V < B * B) : Lt100 (u * V) := by
  apply lt100
  have : u * V ≤ B * (B * B) := Nat.mul_le_mul (by omega) (by omega)
  have e : B * (B * B) < B ^ 5 := by unfold B; decide
  omega
theorem lt_sh5 (k V : Nat) (hk : k < 64) (hV : V < B * B) : Lt100 (V * 2 ^ k) := by
  have : (2 : Nat) ^ k < B := Nat.pow_lt_pow_right (by decide) hk
  rw [Nat.mul_comm]
  exact lt_mul5 _ _ this hV

set_option maxHeartbeats 4000000 in
theorem exact_any (a hi lo : Nat) (w : World) (ha : a < B) (h1 : hi < B) (h2 : lo < B) :
    Calls Yba.prog 16 #[.int .u64 (a : Int), .int .u64 (hi : Int), .int .u64 (lo : Int)] w fun e w' =>
      ∃ bx, .returned (.pointer (some ⟨bx, 0, none⟩)) = e ∧ OwnG true w' w.heap.size w'.heap.size bx false (a * (hi * B + lo)) ∧ Below w.heap.size w w' := by
  have b1 := lt100 (word_lt5 hi h1)
  have b2 := lt100 (word_lt5 lo h2)
  have b3 := lt100 (hi_lt hi h1)
  obtain ⟨V, hV⟩ : ∃ V, V = hi * 2 ^ 64 + lo := ⟨_, rfl⟩
  have hVB : V < B * B := by unfold B at *; omega
  have b4 := lt100 (two_lt hi lo h1 h2)
  rw [← hV] at b4
  have hW : a * (hi * B + lo) = a * V := by rw [hV]; rfl
  rw [hW]
  have HV := hid hV
  clear hV hW
  go_enter Yba.func16, Yba.ntmps16
  go_wp2_with fail
  refine (c_setU hi h1 w).mono ?_
  rintro e w1 ⟨rfl, q1, r1⟩
  go_wp2_with fail
  refine (c_lsh64 w1 q1).mono ?_
  rintro e w2 ⟨rfl, q2, r2⟩
  go_wp2_with fail
  refine (c_setU lo h2 w2).mono ?_
  rintro e w3 ⟨rfl, q3, r3⟩
  go_wp2_with fail
  refine (c_addSelf w3 (q2.keep r3 (Nat.le_refl _)) q3.own b3 b2).mono ?_
  rintro e w4 ⟨rfl, q4, r4⟩
  rw [← HV.out] at q4
  have s4 : Below w.heap.size w w4 := ((r1.trans r2).trans (r3.mono (Nat.le_trans r1.size r2.size))).trans r4
  have q4' := q4.keep (below_alloc w4 new0) (Nat.le_refl _)
  have s4' : Below w.heap.size w (w4.alloc new0) := s4.trans ((below_alloc w4 new0).mono s4.size)
  have z4 := own_zero w4
  have hbx : w.heap.size < w4.heap.size := by obtain ⟨X, hX⟩ := q4; omega
  have Q4 := hid q4'
  have S4 := hid s4'
  have Z4 := hid z4
  have HBX := hid hbx
  have HA : Unit → a < B := fun _ => ha
  have HVB : Unit → V < B * B := fun _ => hVB
  clear q1 q2 q3 q4 r1 r2 r3 r4 s4 q4' s4' z4 hbx HV ha h1 h2 hVB b1 b2 b3
  go_wp2_with fail
  go_loopw [9] (fun t wr => ∃ k : Nat, k ≤ 64 ∧ t = .int .u64 k ∧ Hid (OwnG true wr w4.heap.size wr.heap.size w4.heap.size false (a % 2 ^ k * V)) ∧ Hid (OwnG true wr w.heap.size w4.heap.size w.heap.size false V) ∧ Hid (Below w.heap.size w wr))
    (fun i _ => 64 - (intOf i).toNat)
  case atStart =>
    have e0 : a % 2 ^ 0 * V = 0 := by simp [Nat.mod_one]
    exact ⟨0, by omega, rfl, hid (by rw [e0]; exact Z4.out), Q4, S4⟩
  case round =>
    obtain ⟨k, hk, rfl, x, m, s⟩ := hrel
    by_cases hlt : k < 64
    · have hbit := bit_rule a k (HA ())
      rcases Nat.mod_two_eq_zero_or_one (a / 2 ^ k) with hb | hb
      · rw [hb] at hbit
        go_wp2
        go_roundw
        case rel => exact ⟨k + 1, by omega, by go_num, hid (by rw [← bit_skip a k V hb]; exact x.out), m, s⟩
        case measure => simp [intOf]; omega
      · rw [hb] at hbit
        have hx := lt_mul5 (a % 2 ^ k) V (Nat.lt_of_le_of_lt (Nat.mod_le _ _) (HA ())) (HVB ())
        have hm := lt_sh5 k V hlt (HVB ())
        go_wp2_with fail
        refine (c_lsh k wr m.out b4 (by omega)).mono ?_
        rintro e v1 ⟨rfl, y1, t1⟩
        have x1 := x.out.keep t1 (Nat.le_refl _)
        have Y1 := hid y1
        have X1 := hid x1
        have T1 := hid t1
        clear y1 x1 t1
        go_wp2_with fail
        refine (c_addSelf v1 X1.out Y1.out hx hm).mono ?_
        rintro e v2 ⟨rfl, y2, t2⟩
        rw [bit_step a k V hb] at y2
        have m2 := (m.out.keep (T1.out.mono (by obtain ⟨X, hX⟩ := x.out; omega)) (Nat.le_refl _)).keep t2 (Nat.le_refl _)
        have s2 : Below w.heap.size w v2 := (s.out.trans (T1.out.mono s.out.size)).trans (t2.mono (Nat.le_of_lt HBX.out))
        have Y2 := hid y2
        have M2 := hid m2
        have S2 := hid s2
        clear y2 t2 m2 s2 hx hm
        go_wp2_with fail
        go_roundw
        case rel => exact ⟨k + 1, by omega, by go_num, Y2, M2, S2⟩
        case measure => simp [intOf]; omega
    · obtain rfl : k = 64 := by omega
      go_wp2
      go_ret
      have ea : a % 2 ^ 64 = a := Nat.mod_eq_of_lt (HA ())
      refine ⟨w4.heap.size, rfl, ?_, s.out⟩
      have := x.out
      rw [ea] at this
      exact this.from (Nat.le_of_lt HBX.out)
end Go.Proofs.Ybulkanxo
