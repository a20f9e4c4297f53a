/-
  accrua.wideAccrual: the road to the end.
-/
import Derived.Test.YbulkanxoAccr
namespace Go.Proofs.Ybulkanxo
open Go.RowKit
set_option linter.unusedVariables false
theorem three_cells {w : World} {g : Nat} {u v x : Value} {t : TypeId} (h : w.heap[g]? = some (.cells #[u, v, x] t)) :
    w.cell? ⟨g, 0, none⟩ = some u ∧ w.cell? ⟨g, 1, none⟩ = some v ∧ w.cell? ⟨g, 2, none⟩ = some x :=
  ⟨cell_of_row w g 0 _ _ _ h, cell_of_row w g 1 _ _ _ h, cell_of_row w g 2 _ _ _ h⟩

section
variable (a hi lo s : Nat) (exp r : Int) (w : World) (x0 x1 x2 q : Nat) (p1h p1l p0h c : Nat)
  (M1 : Hid (∀ wx, Calls Yba.prog 33 #[.int .u64 a, .int .u64 hi] wx fun e w' => .returned (.tuple #[.int .u64 (p1h : Int), .int .u64 (p1l : Int)]) = e ∧ wx = w'))
  (M2 : Hid (∀ wx, Calls Yba.prog 33 #[.int .u64 a, .int .u64 lo] wx fun e w' => .returned (.tuple #[.int .u64 (p0h : Int), .int .u64 (x0 : Int)]) = e ∧ wx = w'))
  (hadd : ∀ wx, (callFunc 34 #[.int .u64 (p1l : Int), .int .u64 (p0h : Int), .int .u64 0]).run Yba.prog wx = .ok (.value (.tuple #[.int .u64 (x1 : Int), .int .u64 (c : Int)])) wx)
  (e7 : IntKind.u64.wrap ((p1h : Int) + c) = (x2 : Int))
include M1 M2 hadd e7

set_option maxRecDepth 8000 in
set_option maxHeartbeats 2000000 in
theorem accr_yes (t s1 : Nat) (cut more : Bool) (half nhalf i : Int) (d : Nat) (hnh : Unit → nhalf = -(halfP cut more)) (hhalf : Unit → half = halfP cut more) (hs : wrap64 (128 - exp) = (s : Int)) (hs1 : 1 ≤ s) (hs2 : s ≤ 191) (hq : Unit → (q : Int) < 4611686018427387904) (ha : Unit → (a : Int) < 4611686018427387904) (ht : Unit → ((t : Int) == 1) = cut)
    (e8 : Unit → (s : Int) - 1 = (s1 : Int)) (hs3 : Unit → s1 < 191)
    (S1 : Hid (∀ wx, Calls Yba.prog 35 #[.agg #[.int .u64 x0, .int .u64 x1, .int .u64 x2], .int .u64 (s : Int)] wx fun e w' => ShiftOut wx w' q true e))
    (S2 : Hid (∀ wx, Calls Yba.prog 36 #[.agg #[.int .u64 x0, .int .u64 x1, .int .u64 x2], .int .u64 (s1 : Int)] wx fun e w' => .returned (.int .u64 (t : Int)) = e ∧ Fr (fun _ => False) wx w'))
    (S3 : Hid (∀ wx, Calls Yba.prog 37 #[.agg #[.int .u64 x0, .int .u64 x1, .int .u64 x2], .int .u64 (s1 : Int)] wx fun e w' => .returned (.bool more) = e ∧ Fr (fun _ => False) wx w'))
    (D : Hid (∀ wx, Calls Yba.prog 38 #[.int .u64 (q : Int), .int .i64 half, .int .i64 r] wx fun e w' => .returned (.int .i64 (d : Int)) = e ∧ wx = w'))
    (hI : Hid (((a : Int) ≤ q ∧ ∃ g m : Nat, IntKind.u64.wrap ((q : Int) - a) = g ∧ i = m ∧ ∀ wx, Calls Yba.prog 38 #[.int .u64 (g : Int), .int .i64 half, .int .i64 r] wx fun e w' => .returned (.int .i64 (m : Int)) = e ∧ wx = w') ∨
      ((((a : Int) ≤ q) = False) ∧ (cut = false ∧ more = false) ∧ ∃ g : Nat, IntKind.u64.wrap ((a : Int) - q) = g ∧ (wrap64 (g : Int) = g ∧ wrap64 (-(g : Int)) = -(g : Int)) ∧ i = -(g : Int)) ∨
      ((((a : Int) ≤ q) = False) ∧ (cut = true ∨ more = true) ∧ ∃ g g1 m : Nat, IntKind.u64.wrap ((a : Int) - q) = g1 ∧ IntKind.u64.wrap ((g1 : Int) - 1) = g ∧ wrap64 (-(m : Int)) = -(m : Int) ∧ i = -(m : Int) ∧ ∀ wx, Calls Yba.prog 38 #[.int .u64 (g : Int), .int .i64 nhalf, .int .i64 r] wx fun e w' => .returned (.int .i64 (m : Int)) = e ∧ wx = w'))) :
    Calls Yba.prog 15 #[.int .u64 (a : Int), .agg #[.int .u64 (hi : Int), .int .u64 (lo : Int), .int .i64 exp], .int .i64 r] w fun e w' => AccrOut w w' i d true e := by
  go_enter Yba.func15, Yba.ntmps15
  go_wp2_with fail
  refine (M1.out _).mono ?_
  rintro e w' ⟨rfl, rfl⟩
  go_wp2_with fail
  refine (M2.out _).mono ?_
  rintro e w' ⟨rfl, rfl⟩
  go_wp2_with fail
  refine (S1.out _).mono ?_
  rintro e w1 ⟨rfl, f1⟩
  have hb1 : w1.heap[w.heap.size + 1]? = some (.cells #[.int .u64 (x0 : Int), .int .u64 (x1 : Int), .int .u64 (x2 : Int)] 61) := (f1.block (w.heap.size + 1) (by simp) (fun f => f)).trans (by
    have := heap_new (w.alloc (.cells #[Value.int IntKind.u64 ↑hi, Value.int IntKind.u64 ↑lo, Value.int IntKind.i64 exp] 48)) (.cells #[.int .u64 (x0 : Int), .int .u64 (x1 : Int), .int .u64 (x2 : Int)] 61)
    rw [size_new] at this
    exact this)
  have F1 := hid f1
  clear f1
  clear M1 M2 hadd e7 hs S1
  have hqn : ((4611686018427387904:Int) ≤ (q:Int)) = False := eq_false (Int.not_le.2 (hq ()))
  obtain ⟨c0, c1, c2⟩ := three_cells hb1
  have hsz : w.heap.size + 1 < w1.heap.size := lt_of_block hb1
  have HB1 := hid hb1
  have HSZ := hid hsz
  have e8' := e8 ()
  clear hb1 hsz e8
  go_wp2_with fail
  refine (S2.out _).mono ?_
  rintro e w2 ⟨rfl, f2⟩
  have hb2 := (f2.block _ HSZ.out (fun f => f)).trans HB1.out
  have F2 := hid f2
  obtain ⟨d0, d1, d2⟩ := three_cells hb2
  clear hb2 f2 c0 c1 c2
  have ht' := ht ()
  clear ht
  go_wp2_with fail
  refine (S3.out _).mono ?_
  rintro e w3 ⟨rfl, f3⟩
  have F3 := hid f3
  clear f3 d0 d1 d2 S2 S3 ha hq hqn HB1 HSZ e8' hs1 hs2 hs3
  have hfin : Fr (fun _ => False) w w3 := (((((Fr.refl _ w).alloc _).alloc _).trans F1.out).trans F2.out).trans F3.out
  have HF := hid hfin
  clear F1 F2 F3 hfin ht'
  have hh := hhalf ()
  have hn := hnh ()
  clear hhalf hnh
  have hi' := hI.out
  clear hI
  rcases hi' with ⟨hqa, g, m, eg, hi, I⟩ | ⟨hqa, ⟨hc, hm⟩, g, eg, ⟨hg, hg2⟩, hi⟩ | ⟨hqa, hcm, g, g1, m, e1, e2, hm, hi, I⟩
  · have I' := hid I
    clear I
    subst hi
    cases cut <;> cases more <;> simp [halfP] at hh <;> subst hh
    all_goals
      go_wp2_with fail
      refine (D.out _).mono ?_
      rintro e w4 ⟨rfl, rfl⟩
      go_wp2_with fail
      refine (I'.out _).mono ?_
      rintro e w5 ⟨rfl, rfl⟩
      go_wp2_with fail
      go_ret3
      exact ⟨rfl, HF.out⟩
  · subst hc hm hi
    simp [halfP] at hh
    subst hh
    go_wp2_with fail
    refine (D.out _).mono ?_
    rintro e w4 ⟨rfl, rfl⟩
    go_wp2_with fail
    go_ret3
    refine ⟨?_, HF.out⟩
    show Ending.returned (.tuple #[.int .i64 (-(g : Int)), .int .i64 (d : Int), .bool true]) = Ending.returned (.tuple #[.int .i64 (wrap64 (-(g : Int))), .int .i64 (d : Int), .bool true])
    rw [hg2]
  · have I' := hid I
    clear I
    subst hi
    cases cut <;> cases more <;> simp [halfP] at hh hn hcm <;> subst hh <;> subst hn
    all_goals
      go_wp2_with fail
      refine (D.out _).mono ?_
      rintro e w4 ⟨rfl, rfl⟩
      go_wp2_with fail
      refine (I'.out _).mono ?_
      rintro e w5 ⟨rfl, rfl⟩
      go_wp2_with fail
      go_ret3
      refine ⟨?_, HF.out⟩
      show Ending.returned (.tuple #[.int .i64 (-(m : Int)), .int .i64 (d : Int), .bool true]) = Ending.returned (.tuple #[.int .i64 (wrap64 (-(m : Int))), .int .i64 (d : Int), .bool true])
      rw [hm]
end
end Go.Proofs.Ybulkanxo
