/-
  math/big.Int: SetUint64, Cmp, Set into a new Int, Abs, Neg, Sign.
-/
import Derived.Test.YbulkanxoIntAdd
namespace Go.Proofs.Ybulkanxo
open Go.RowKit
set_option linter.unusedVariables false

set_option maxHeartbeats 400000 in
theorem setU_fresh (bz x : Nat) (w : World) (hz : w.heap[bz]? = some (hdr false (.slice none 0 0))) (hx : x < B) :
    Calls Yba.prog 10 #[.pointer (some ⟨bz, 0, none⟩), .int .u64 (x : Int)] w fun e w' =>
      ∃ R : Nt, e = .returned (.pointer (some ⟨bz, 0, none⟩)) ∧ BigAt w' bz false R ∧ R.num = x ∧ Fr (· = bz) w w' ∧ (∀ k, R.has k → w.heap.size ≤ k) ∧ (R.num = 0 → R = .nil) ∧ (R = .nil ∨ ∃ g d, R = .blk g [d] 1) := by
  have cz1 := hdr_abs hz
  have cz0 := hdr_neg hz
  have fz1 : w.frozen? ⟨bz, 1, none⟩ = false := hdr_free hz
  have fz0 : w.frozen? ⟨bz, 0, none⟩ = false := hdr_free hz
  by_cases h0 : x = 0
  · subst h0
    go_enter Yba.func10, Yba.ntmps10
    go_wp2_with (go_at_call 27; refine (flip (setUint64_zero _)).mono ?_; rintro e w' ⟨rfl, rfl⟩)
    go_ret
    have hb2 := hdr_set0 (n2 := false) (hdr_set1 (v2 := .slice none 0 0) hz)
    exact ⟨.nil, rfl, ⟨hb2, trivial⟩, rfl, ((Fr.refl (· = bz) w).setCell (ad := ⟨bz, 1, none⟩) (fun _ => rfl) _).setCell (ad := ⟨bz, 0, none⟩) (fun _ => rfl) _, (fun k h => by cases h), (fun _ => rfl), .inl rfl⟩
  · have hsz := lt_of_block hz
    have hz1 : (w.alloc (row [x])).heap[bz]? = some (hdr false (.slice none 0 0)) := row_alloc hz
    have hr1 : (w.alloc (row [x])).heap[w.heap.size]? = some (row [x]) := heap_new _ _
    have a1 := hdr_abs hz1
    have a2 := hdr_neg hz1
    have a3 : (w.alloc (row [x])).frozen? ⟨bz, 1, none⟩ = false := hdr_free hz1
    have a4 : (w.alloc (row [x])).frozen? ⟨bz, 0, none⟩ = false := hdr_free hz1
    obtain ⟨W1, hW⟩ : ∃ W, W = w.alloc (row [x]) := ⟨_, rfl⟩
    have hpos := (setUint64_pos x (Nat.pos_of_ne_zero h0) w).mono (R' := fun e w' => Ending.returned (.slice (some ⟨w.heap.size, 0, none⟩) 1 1) = e ∧ W1 = w') fun _ _ ⟨a, b⟩ => ⟨a.symm, by rw [hW, b]⟩
    have hfr : Fr (fun _ => False) w W1 := by rw [hW]; exact (Fr.refl _ w).alloc _
    rw [← hW] at hz1 hr1 a1 a2 a3 a4
    have HP := hid hpos
    have HZ := hid hz1
    have HR := hid hr1
    clear hpos hz1 hr1 hW
    go_enter Yba.func10, Yba.ntmps10
    go_wp2_with (go_at_call 27; refine HP.out.mono ?_; rintro e w' ⟨rfl, rfl⟩)
    go_ret
    have hnm : Normed [x] 1 := fun _ => h0
    have hok : (Nt.blk w.heap.size [x] 1).ok W1 := ⟨HR.out, (by intro d h; simp at h; omega), Nat.le_refl _, hnm⟩
    obtain ⟨s1, s2⟩ := stored (neg := false) (R := .blk w.heap.size [x] 1) HZ.out hok hfr rfl
    refine ⟨.blk w.heap.size [x] 1, rfl, s1, by simp [Nt.num, val], s2.mono (fun _ _ h => h.resolve_right (fun f => f)), fun k (hk : k = _) => by omega, fun h => ?_, .inr ⟨_, _, rfl⟩⟩
    exfalso
    simp [Nt.num, val] at h
    exact h0 h

/-! ### pointers to Ints compared -/
theorem info37 : ∃ j, Yba.prog.info? 37 = some j ∧ j.size ≠ 0 := by
  have h : (Yba.prog.info? 37).map (·.size) = some 2 := by kernel_rfl
  cases hq : Yba.prog.info? 37 with
  | none => rw [hq] at h; cases h
  | some j => rw [hq] at h; exact ⟨j, rfl, by have : j.size = 2 := by simpa using h
                                              rw [this]; decide⟩
theorem ptr_other (w : World) (bx bY : Nat) (n1 n2 : Bool) (v1 v2 : Value) (hne : bx ≠ bY) (hx : w.heap[bx]? = some (hdr n1 v1)) (hy : w.heap[bY]? = some (hdr n2 v2)) :
    (binOp .eql 28 (.pointer (some ⟨bx, 0, none⟩)) (.pointer (some ⟨bY, 0, none⟩))).run Yba.prog w = .ok (.bool false) w ∧ (binOp .neq 28 (.pointer (some ⟨bx, 0, none⟩)) (.pointer (some ⟨bY, 0, none⟩))).run Yba.prog w = .ok (.bool true) w := by
  obtain ⟨j, hj, hs⟩ := info37
  have hne' : (⟨bx, 0, none⟩ : Addr) ≠ ⟨bY, 0, none⟩ := by intro e; exact hne (by simpa using congrArg Addr.block e)
  have h : ∀ d : Nat, (Op.equalIn (d + 1) 28 (.pointer (some ⟨bx, 0, none⟩)) (.pointer (some ⟨bY, 0, none⟩))).run Yba.prog w = .ok false w := fun d => by
    simp [Op.equalIn, run_underlying Yba.underlying28, sizeOf, typeInfo, hj, hs, run_sameAddr_other w hne' hx hy]
  constructor <;> (simp only [binOp]; simp [Op.equal, Op.maxDepth, h 9999])
theorem ptr_same (w : World) (a : Addr) :
    (binOp .eql 28 (.pointer (some a)) (.pointer (some a))).run Yba.prog w = .ok (.bool true) w ∧ (binOp .neq 28 (.pointer (some a)) (.pointer (some a))).run Yba.prog w = .ok (.bool false) w := by
  obtain ⟨j, hj, hs⟩ := info37
  have h : ∀ d : Nat, (Op.equalIn (d + 1) 28 (.pointer (some a)) (.pointer (some a))).run Yba.prog w = .ok true w := fun d => by
    simp [Op.equalIn, run_underlying Yba.underlying28, sizeOf, typeInfo, hj, run_sameAddr_same]
  constructor <;> (simp only [binOp]; simp [Op.equal, Op.maxDepth, h 9999])

/-! ### Set into a new Int; Abs; Neg; Sign; Cmp -/
set_option maxHeartbeats 1000000 in
theorem set_fresh (bz bx : Nat) (negx : Bool) (X : Nt) (w : World) (hz : w.heap[bz]? = some (hdr false (.slice none 0 0))) (hx : BigAt w bx negx X) (hne : bz ≠ bx) (lx : X.len ≤ 900) :
    Calls Yba.prog 32 #[.pointer (some ⟨bz, 0, none⟩), .pointer (some ⟨bx, 0, none⟩)] w fun e w' =>
      ∃ R : Nt, e = .returned (.pointer (some ⟨bz, 0, none⟩)) ∧ BigAt w' bz negx R ∧ R.num = X.num ∧ Fr (fun k => k = bz ∨ False) w w' ∧ (∀ k, R.has k → False ∨ w.heap.size ≤ k) ∧ (R.num = 0 → R = .nil) := by
  obtain ⟨a, n, c, hXv⟩ := X.is_slice
  have hn : ∀ d, Calls Yba.prog 46 #[.slice none 0 0, .slice a n c] (w.drewN d) fun e w' => ResG (fun _ => False) (w.drewN d) w' X.num e := by
    intro d
    rw [← hXv]
    exact natSet X (w.drewN d) hx.ok (by omega)
  have cz1 := hdr_abs hz
  have cx1 : w.cell? ⟨bx, 1, none⟩ = some (.slice a n c) := by rw [← hXv]; exact hdr_abs hx.hdr
  have hp := (ptr_other w bz bx _ _ _ _ hne hz hx.hdr).2
  have HN := hid (hn 1)
  have HV := hid hXv
  have HNE := hid hne
  clear hn hXv hne
  go_enter Yba.func32, Yba.ntmps32
  go_wp2
  go_region_with (go_at_call 46; refine HN.out.mono ?_; rintro e w1 ⟨R, rfl, hR⟩; obtain ⟨k1, k2, k3, k4, k5, k6, HR⟩ := lsh_after hz hx.hdr HV.out hR; obtain ⟨a2, n2, c2, hRv⟩ := R.is_slice; rw [hRv]; have HRV := hid hRv; clear hRv hR)
  all_goals go_wp2
  all_goals
    go_ret
    obtain ⟨r1, r2, r3, r4, r5, r6, r7⟩ := HR.out
    obtain ⟨s1, s2⟩ := stored (neg := negx) r1 r3 r5 HRV.out
    exact ⟨R, rfl, s1, r4, s2, fun k hk => .inr (r6 k hk), fun h => r7 (by rw [← r4]; exact h)⟩

set_option maxHeartbeats 400000 in
theorem abs_fresh (bz bx : Nat) (negx : Bool) (X : Nt) (w : World) (hz : w.heap[bz]? = some (hdr false (.slice none 0 0))) (hx : BigAt w bx negx X) (hne : bz ≠ bx) (lx : X.len ≤ 900) :
    Calls Yba.prog 40 #[.pointer (some ⟨bz, 0, none⟩), .pointer (some ⟨bx, 0, none⟩)] w fun e w' =>
      ∃ R : Nt, e = .returned (.pointer (some ⟨bz, 0, none⟩)) ∧ BigAt w' bz false R ∧ R.num = X.num ∧ Fr (fun k => k = bz ∨ False) w w' ∧ (∀ k, R.has k → False ∨ w.heap.size ≤ k) ∧ (R.num = 0 → R = .nil) := by
  have hs := hid (set_fresh bz bx negx X w hz hx hne lx)
  clear hne
  go_enter Yba.func40, Yba.ntmps40
  go_wp2_with (go_at_call 32; refine hs.out.mono ?_; rintro e w1 ⟨R, rfl, q1, q2, q3, q4, q5⟩; have k0 := hdr_neg q1.hdr; have k1 : w1.frozen? ⟨bz, 0, none⟩ = false := hdr_free q1.hdr; have Q := hid (And.intro q1 (And.intro q2 (And.intro q3 (And.intro q4 q5)))); clear q1 q2 q3 q4 q5)
  go_ret
  obtain ⟨q1, q2, q3, q4, q5⟩ := Q.out
  have hb := hdr_set0 (n2 := false) q1.hdr
  refine ⟨R, rfl, ⟨hb, ?_⟩, q2, q3.setCell (ad := ⟨bz, 0, none⟩) (fun _ => .inl rfl) _, q4, q5⟩
  exact Nt.ok_fr q1.ok ((Fr.refl (· = bz) w1).setCell (ad := ⟨bz, 0, none⟩) (fun _ => rfl) _) (fun k hk e => Nt.not_hdr q1.ok q1.hdr (by rw [← e]; exact hk))

/-- x.Neg(x). -/
theorem neg_self (b : Nat) (neg : Bool) (X : Nt) (w : World) (hx : BigAt w b neg X) (lx : X.len ≤ 900) :
    Calls Yba.prog 13 #[.pointer (some ⟨b, 0, none⟩), .pointer (some ⟨b, 0, none⟩)] w fun e w' =>
      e = .returned (.pointer (some ⟨b, 0, none⟩)) ∧ BigAt w' b (decide (0 < X.len) && !neg) X ∧ Fr (· = b) w w' := by
  obtain ⟨a, n, c, hXv⟩ := X.is_slice
  have hl : X.len = n := by
    cases X with
    | nil => simp [Nt.v] at hXv; exact hXv.2.1
    | blk g cs k => simp [Nt.v] at hXv; exact hXv.2.1
  have c1 : w.cell? ⟨b, 1, none⟩ = some (.slice a n c) := by rw [← hXv]; exact hdr_abs hx.hdr
  have c0 := hdr_neg hx.hdr
  have f0 : w.frozen? ⟨b, 0, none⟩ = false := hdr_free hx.hdr
  have hp := fun wx => (ptr_same wx ⟨b, 0, none⟩).2
  have hnot : ∀ (x : Bool) (w : World), (Op.unary .not (.bool x)).run Yba.prog w = .ok (.bool (!x)) w := fun _ _ => rfl
  have fin : ∀ v : Bool, (decide (0 < X.len) && !neg) = v → BigAt (w.setCell ⟨b, 0, none⟩ (.bool v)) b (decide (0 < X.len) && !neg) X ∧ Fr (· = b) w (w.setCell ⟨b, 0, none⟩ (.bool v)) := by
    intro v hv
    rw [hv]
    refine ⟨⟨hdr_set0 hx.hdr, ?_⟩, (Fr.refl (· = b) w).setCell (ad := ⟨b, 0, none⟩) (fun _ => rfl) _⟩
    exact Nt.ok_fr hx.ok ((Fr.refl (· = b) w).setCell (ad := ⟨b, 0, none⟩) (fun _ => rfl) _) (fun k hk e => Nt.not_hdr hx.ok hx.hdr (by rw [← e]; exact hk))
  have FIN := hid fin
  have HL := hid hl
  clear fin hl hXv
  by_cases h0 : 0 < n
  · go_enter Yba.func13, Yba.ntmps13
    go_wp2
    go_ret
    exact ⟨rfl, FIN.out _ (by rw [HL.out]; simp [h0])⟩
  · obtain rfl : n = 0 := by omega
    go_enter Yba.func13, Yba.ntmps13
    go_wp2
    go_ret
    exact ⟨rfl, FIN.out _ (by rw [HL.out]; simp)⟩

/-- The sign. -/
theorem sign_int (b : Nat) (neg : Bool) (X : Nt) (w : World) (hx : BigAt w b neg X) (lx : X.len ≤ 900) :
    Calls Yba.prog 39 #[.pointer (some ⟨b, 0, none⟩)] w fun e w' => e = .returned (.int .i64 (if X.num = 0 then 0 else if neg then -1 else 1)) ∧ w' = w := by
  obtain ⟨a, n, c, hXv⟩ := X.is_slice
  have hl : X.len = n := by
    cases X with
    | nil => simp [Nt.v] at hXv; exact hXv.2.1
    | blk g cs k => simp [Nt.v] at hXv; exact hXv.2.1
  have c1 : w.cell? ⟨b, 1, none⟩ = some (.slice a n c) := by rw [← hXv]; exact hdr_abs hx.hdr
  have c0 := hdr_neg hx.hdr
  clear hXv
  by_cases h0 : n = 0
  · have e : X.num = 0 := by
      cases X with
      | nil => rfl
      | blk g cs k => have : k = 0 := hl.trans h0; subst this; rfl
    rw [if_pos e]
    subst h0
    clear hl e
    go_enter Yba.func39, Yba.ntmps39
    go_wp2
    go_ret
    exact ⟨rfl, rfl⟩
  · have hp := Nt.num_pos hx.ok (by omega)
    rw [if_neg (by omega)]
    have hb : ((n : Int) == 0) = false := by simp; omega
    clear hl hp
    cases neg
    · go_enter Yba.func39, Yba.ntmps39
      go_wp2
      go_ret
      exact ⟨rfl, rfl⟩
    · go_enter Yba.func39, Yba.ntmps39
      go_wp2
      go_ret
      exact ⟨rfl, rfl⟩
end Go.Proofs.Ybulkanxo
