/-
  Ints as a law's walk meets them: each in its own blocks, from 'lo' on and below 'hi'.
-/
import Derived.Test.YbulkanxoIntCmp
import Derived.Test.YbulkanxoIntSub
namespace Go.Proofs.Ybulkanxo
open Go.RowKit
set_option linter.unusedVariables false

/-- A big.Int at block b, all its blocks in [lo, hi): sign and number; 0 is nil where 'g' says so. -/
def OwnG (g : Bool) (w : World) (lo hi b : Nat) (neg : Bool) (v : Nat) : Prop :=
  ∃ X : Nt, BigAt w b neg X ∧ X.num = v ∧ lo ≤ b ∧ b < hi ∧ hi ≤ w.heap.size ∧ (∀ k, X.has k → lo ≤ k ∧ k < hi) ∧ (g = true → v = 0 → X = .nil)
/-- .. and small: nil, or one word in a row of one. -/
def OwnS (w : World) (lo hi b : Nat) (v : Nat) : Prop :=
  ∃ X : Nt, BigAt w b false X ∧ X.num = v ∧ lo ≤ b ∧ b < hi ∧ hi ≤ w.heap.size ∧ (∀ k, X.has k → lo ≤ k ∧ k < hi) ∧ (v = 0 → X = .nil) ∧ (X = .nil ∨ ∃ g d, X = .blk g [d] 1)
theorem OwnS.own {w : World} {lo hi b v : Nat} (h : OwnS w lo hi b v) : OwnG true w lo hi b false v := by
  obtain ⟨X, a, b, c, d, e, f, g, _⟩ := h
  exact ⟨X, a, b, c, d, e, f, fun _ => g⟩
theorem OwnG.weak {g : Bool} {w : World} {lo hi b : Nat} {neg : Bool} {v : Nat} (h : OwnG g w lo hi b neg v) : OwnG false w lo hi b neg v := by
  obtain ⟨X, a, b, c, d, e, f, _⟩ := h
  exact ⟨X, a, b, c, d, e, f, fun h => by cases h⟩
theorem OwnG.keep {g : Bool} {w w' : World} {lo hi b Bb : Nat} {neg : Bool} {v : Nat} (h : OwnG g w lo hi b neg v) (hb : Below Bb w w') (hh : hi ≤ Bb) : OwnG g w' lo hi b neg v := by
  obtain ⟨X, h1, h2, h3, h4, h5, h6, h7⟩ := h
  exact ⟨X, h1.fr (Fr.of_below hb) (by omega) (fun k hk => by have := h6 k hk; omega), h2, h3, h4, Nat.le_trans h5 hb.size, h6, h7⟩
theorem OwnG.upto {g : Bool} {w : World} {lo hi hi' b : Nat} {neg : Bool} {v : Nat} (h : OwnG g w lo hi b neg v) (hh : hi ≤ hi') (hw : hi' ≤ w.heap.size) : OwnG g w lo hi' b neg v := by
  obtain ⟨X, h1, h2, h3, h4, h5, h6, h7⟩ := h
  exact ⟨X, h1, h2, h3, by omega, hw, fun k hk => by have := h6 k hk; omega, h7⟩
theorem OwnG.from {g : Bool} {w : World} {lo lo' hi b : Nat} {neg : Bool} {v : Nat} (h : OwnG g w lo hi b neg v) (hh : lo' ≤ lo) : OwnG g w lo' hi b neg v := by
  obtain ⟨X, h1, h2, h3, h4, h5, h6, h7⟩ := h
  exact ⟨X, h1, h2, by omega, h4, h5, fun k hk => by have := h6 k hk; omega, h7⟩

theorem Below.ofFr {S : Nat → Prop} {w w' : World} {Bb : Nat} (h : Fr S w w') (hB : Bb ≤ w.heap.size) (hS : ∀ k, S k → Bb ≤ k) : Below Bb w w' := h.below hB hS
theorem below_alloc (w : World) (o : Obj) : Below w.heap.size w (w.alloc o) := (Below.refl _ _).alloc (Nat.le_refl _) o
/-- new(big.Int). -/
def new0 : Obj := hdr false (.slice none 0 0)

/-- The common end: an Int made at the new block b = w.heap.size. -/
theorem own_new {g : Bool} {w w' : World} {neg : Bool} {v : Nat} {R : Nt} (hb : BigAt w' w.heap.size neg R) (hv : R.num = v) (hf : Fr (fun k => k = w.heap.size ∨ False) (w.alloc new0) w') (hR : ∀ k, R.has k → False ∨ (w.alloc new0).heap.size ≤ k) (hg : g = true → v = 0 → R = .nil) :
    OwnG g w' w.heap.size w'.heap.size w.heap.size neg v ∧ Below w.heap.size w w' := by
  have hs : (w.alloc new0).heap.size = w.heap.size + 1 := size_new w new0
  have hsz := hf.size
  refine ⟨⟨R, hb, hv, Nat.le_refl _, lt_of_block hb.hdr, Nat.le_refl _, fun k hk => ⟨?_, Nt.has_lt hb.ok hk⟩, hg⟩, ?_⟩
  · have := (hR k hk).resolve_left (fun f => f); omega
  · exact (below_alloc w new0).trans (hf.below (by omega) (fun k hk => by have := hk.resolve_right (fun f => f); omega))

/-- new(big.Int).SetUint64(x) -/
theorem c_setU (x : Nat) (hx : x < B) (w : World) : Calls Yba.prog 10 #[.pointer (some ⟨w.heap.size, 0, none⟩), .int .u64 (x : Int)] (w.alloc new0) fun e w' =>
    e = .returned (.pointer (some ⟨w.heap.size, 0, none⟩)) ∧ OwnS w' w.heap.size w'.heap.size w.heap.size x ∧ Below w.heap.size w w' :=
  (setU_fresh w.heap.size x (w.alloc new0) (heap_new w new0) hx).mono fun e w' ⟨R, he, hb, hv, hf, hR, hg, hs⟩ => by
    have := own_new (g := true) hb hv (hf.mono (fun _ _ h => .inl h)) (fun k hk => .inr (hR k hk)) (fun _ h0 => hg (by rw [hv]; exact h0))
    obtain ⟨⟨X, q⟩, h2⟩ := this
    refine ⟨he, ⟨R, hb, hv, Nat.le_refl _, lt_of_block hb.hdr, Nat.le_refl _, fun k hk => ⟨?_, Nt.has_lt hb.ok hk⟩, (fun h0 => hg (by rw [hv]; exact h0)), hs⟩, h2⟩
    have := hR k hk
    rw [size_new] at this
    omega

theorem len_bound {w : World} {X : Nt} (h : X.ok w) {v : Nat} (hv : X.num = v) (hb : v < B ^ 100) : X.len ≤ 100 := X.len_le h (by rw [hv]; exact hb)

/-- new(big.Int).Lsh(x, s) -/
theorem c_lsh {g : Bool} {lo hi bx : Nat} {neg : Bool} {v : Nat} (s : Nat) (w : World) (hx : OwnG g w lo hi bx neg v) (hv : v < B ^ 100) (hs : s ≤ 1000) :
    Calls Yba.prog 11 #[.pointer (some ⟨w.heap.size, 0, none⟩), .pointer (some ⟨bx, 0, none⟩), .int .u64 (s : Int)] (w.alloc new0) fun e w' =>
      e = .returned (.pointer (some ⟨w.heap.size, 0, none⟩)) ∧ OwnG true w' w.heap.size w'.heap.size w.heap.size neg (v * 2 ^ s) ∧ Below w.heap.size w w' := by
  obtain ⟨X, h1, h2, h3, h4, h5, h6, h7⟩ := hx
  have hl := len_bound h1.ok h2 hv
  have h1' : BigAt (w.alloc new0) bx neg X := h1.fr ((Fr.refl (fun _ => False) w).alloc new0) (fun f => f) (fun _ _ f => f)
  refine (lsh_fresh w.heap.size bx neg X s (w.alloc new0) (heap_new w new0) h1' (by omega) (by omega)).mono fun e w' ⟨R, he, hb, hRv, hf, hR, hg⟩ => ?_
  rw [h2] at hRv
  exact ⟨he, own_new hb hRv (hf.mono (fun _ _ h => .inl h)) (fun k hk => .inr (hR k hk)) (fun _ h0 => hg (by rw [hRv]; exact h0))⟩

/-- new(big.Int).Add(x, y) -/
theorem c_add {lo hi bx lo2 hi2 bY : Nat} {v v2 : Nat} (w : World) (hx : OwnG true w lo hi bx false v) (hy : OwnG true w lo2 hi2 bY false v2) (hv : v < B ^ 100) (hv2 : v2 < B ^ 100) :
    Calls Yba.prog 12 #[.pointer (some ⟨w.heap.size, 0, none⟩), .pointer (some ⟨bx, 0, none⟩), .pointer (some ⟨bY, 0, none⟩)] (w.alloc new0) fun e w' =>
      e = .returned (.pointer (some ⟨w.heap.size, 0, none⟩)) ∧ OwnG true w' w.heap.size w'.heap.size w.heap.size false (v + v2) ∧ Below w.heap.size w w' := by
  obtain ⟨X, h1, h2, h3, h4, h5, h6, h7⟩ := hx
  obtain ⟨Y, k1, k2, k3, k4, k5, k6, k7⟩ := hy
  have hl := len_bound h1.ok h2 hv
  have kl := len_bound k1.ok k2 hv2
  have h1' : BigAt (w.alloc new0) bx false X := h1.fr ((Fr.refl (fun _ => False) w).alloc new0) (fun f => f) (fun _ _ f => f)
  have k1' : BigAt (w.alloc new0) bY false Y := k1.fr ((Fr.refl (fun _ => False) w).alloc new0) (fun f => f) (fun _ _ f => f)
  refine (add_int w.heap.size bx bY false .nil X Y (w.alloc new0) (heap_new w new0) trivial h1' k1' (Nt.good_of (fun h => h7 rfl (by rw [← h2]; exact h))) (Nt.good_of (fun h => k7 rfl (by rw [← k2]; exact h))) (.inl rfl) (by omega) (by omega)).mono fun e w' ⟨R, he, hb, hRv, hf, hR, hg⟩ => ?_
  rw [h2, k2] at hRv
  exact ⟨he, own_new hb hRv (hf.mono (fun _ _ h => h.imp id (fun f => f))) (fun k hk => (hR k hk).imp (fun f => f) id) (fun _ h0 => hg (by rw [hRv]; exact h0))⟩

/-- x.Add(x, y) -/
theorem c_addSelf {lo hi bx lo2 hi2 bY : Nat} {v v2 : Nat} (w : World) (hx : OwnG true w lo hi bx false v) (hy : OwnG true w lo2 hi2 bY false v2) (hv : v < B ^ 100) (hv2 : v2 < B ^ 100) :
    Calls Yba.prog 12 #[.pointer (some ⟨bx, 0, none⟩), .pointer (some ⟨bx, 0, none⟩), .pointer (some ⟨bY, 0, none⟩)] w fun e w' =>
      e = .returned (.pointer (some ⟨bx, 0, none⟩)) ∧ OwnG true w' lo w'.heap.size bx false (v + v2) ∧ Below lo w w' := by
  obtain ⟨X, h1, h2, h3, h4, h5, h6, h7⟩ := hx
  obtain ⟨Y, k1, k2, k3, k4, k5, k6, k7⟩ := hy
  have hl := len_bound h1.ok h2 hv
  have kl := len_bound k1.ok k2 hv2
  refine (add_int bx bx bY false X X Y w h1.hdr h1.ok h1 k1 (Nt.good_of (fun h => h7 rfl (by rw [← h2]; exact h))) (Nt.good_of (fun h => k7 rfl (by rw [← k2]; exact h))) (.inr (.inl rfl)) (by omega) (by omega)).mono fun e w' ⟨R, he, hb, hRv, hf, hR, hg⟩ => ?_
  rw [h2, k2] at hRv
  have hsz := hf.size
  refine ⟨he, ⟨R, hb, hRv, h3, lt_of_block hb.hdr, Nat.le_refl _, fun k hk => ⟨?_, Nt.has_lt hb.ok hk⟩, fun _ h0 => hg (by rw [hRv]; exact h0)⟩, ?_⟩
  · rcases hR k hk with h | h
    · exact (h6 k h).1
    · omega
  · exact hf.below (by omega) (fun k hk => by rcases hk with h | h; omega; exact (h6 k h).1)

/-- new(big.Int).Sub(x, y) -/
theorem c_sub {g g2 : Bool} {lo hi bx lo2 hi2 bY : Nat} {v v2 : Nat} (w : World) (hx : OwnG g w lo hi bx false v) (hy : OwnG g2 w lo2 hi2 bY false v2) (hv : v < B ^ 100) (hv2 : v2 < B ^ 100) :
    Calls Yba.prog 18 #[.pointer (some ⟨w.heap.size, 0, none⟩), .pointer (some ⟨bx, 0, none⟩), .pointer (some ⟨bY, 0, none⟩)] (w.alloc new0) fun e w' =>
      e = .returned (.pointer (some ⟨w.heap.size, 0, none⟩)) ∧ OwnG false w' w.heap.size w'.heap.size w.heap.size (decide (v < v2)) (if v < v2 then v2 - v else v - v2) ∧ Below w.heap.size w w' := by
  obtain ⟨X, h1, h2, h3, h4, h5, h6, h7⟩ := hx
  obtain ⟨Y, k1, k2, k3, k4, k5, k6, k7⟩ := hy
  have hl := len_bound h1.ok h2 hv
  have kl := len_bound k1.ok k2 hv2
  have h1' : BigAt (w.alloc new0) bx false X := h1.fr ((Fr.refl (fun _ => False) w).alloc new0) (fun f => f) (fun _ _ f => f)
  have k1' : BigAt (w.alloc new0) bY false Y := k1.fr ((Fr.refl (fun _ => False) w).alloc new0) (fun f => f) (fun _ _ f => f)
  by_cases hlt : v < v2
  · rw [if_pos hlt, decide_eq_true hlt]
    refine (sub_int_lt w.heap.size bx bY X Y (w.alloc new0) (heap_new w new0) h1' k1' (by omega) (by omega) (by omega)).mono fun e w' ⟨R, he, hb, hRv, hf, hR⟩ => ?_
    rw [h2, k2] at hRv
    exact ⟨he, own_new hb hRv hf hR (fun h => by cases h)⟩
  · rw [if_neg hlt, decide_eq_false hlt]
    refine (sub_int_ge w.heap.size bx bY X Y (w.alloc new0) (heap_new w new0) h1' k1' (by omega) (by omega) (by omega)).mono fun e w' ⟨R, he, hb, hRv, hf, hR⟩ => ?_
    rw [h2, k2] at hRv
    exact ⟨he, own_new hb hRv hf hR (fun h => by cases h)⟩

/-- new(big.Int).Abs(x) -/
theorem c_abs {g : Bool} {lo hi bx : Nat} {neg : Bool} {v : Nat} (w : World) (hx : OwnG g w lo hi bx neg v) (hv : v < B ^ 100) :
    Calls Yba.prog 40 #[.pointer (some ⟨w.heap.size, 0, none⟩), .pointer (some ⟨bx, 0, none⟩)] (w.alloc new0) fun e w' =>
      e = .returned (.pointer (some ⟨w.heap.size, 0, none⟩)) ∧ OwnG true w' w.heap.size w'.heap.size w.heap.size false v ∧ Below w.heap.size w w' := by
  obtain ⟨X, h1, h2, h3, h4, h5, h6, h7⟩ := hx
  have hl := len_bound h1.ok h2 hv
  have h1' : BigAt (w.alloc new0) bx neg X := h1.fr ((Fr.refl (fun _ => False) w).alloc new0) (fun f => f) (fun _ _ f => f)
  refine (abs_fresh w.heap.size bx neg X (w.alloc new0) (heap_new w new0) h1' (by omega) (by omega)).mono fun e w' ⟨R, he, hb, hRv, hf, hR, hg⟩ => ?_
  rw [h2] at hRv
  exact ⟨he, own_new hb hRv hf hR (fun _ h0 => hg (by rw [hRv]; exact h0))⟩

/-- x.Cmp(y), one sign. -/
theorem c_cmp {g g2 : Bool} {lo hi bx lo2 hi2 bY : Nat} {neg : Bool} {v v2 : Nat} (w : World) (hx : OwnG g w lo hi bx neg v) (hy : OwnG g2 w lo2 hi2 bY neg v2) (hne : bx ≠ bY) (hv : v < B ^ 100) (hv2 : v2 < B ^ 100) :
    Calls Yba.prog 14 #[.pointer (some ⟨bx, 0, none⟩), .pointer (some ⟨bY, 0, none⟩)] w fun e w' => e = .returned (.int .i64 (if neg then -cmpN v v2 else cmpN v v2)) ∧ ∃ d, w' = w.drewN d := by
  obtain ⟨X, h1, h2, h3, h4, h5, h6, h7⟩ := hx
  obtain ⟨Y, k1, k2, k3, k4, k5, k6, k7⟩ := hy
  have hl := len_bound h1.ok h2 hv
  have kl := len_bound k1.ok k2 hv2
  have := cmp_int bx bY neg X Y w h1 k1 hne (by omega) (by omega)
  rw [h2, k2] at this
  exact this

theorem c_sign {g : Bool} {lo hi bx : Nat} {neg : Bool} {v : Nat} (w : World) (hx : OwnG g w lo hi bx neg v) (hv : v < B ^ 100) :
    Calls Yba.prog 39 #[.pointer (some ⟨bx, 0, none⟩)] w fun e w' => e = .returned (.int .i64 (if v = 0 then 0 else if neg then -1 else 1)) ∧ w' = w := by
  obtain ⟨X, h1, h2, h3, h4, h5, h6, h7⟩ := hx
  have := sign_int bx neg X w h1 (Nat.le_trans (len_bound h1.ok h2 hv) (by decide))
  rw [h2] at this
  exact this

/-- big.NewInt(1) -/
theorem c_one (w : World) : Calls Yba.prog 8 #[.int .i64 1] w fun e w' => e = .returned (.pointer (some ⟨w.heap.size + 1, 0, none⟩)) ∧ OwnG true w' w.heap.size w'.heap.size (w.heap.size + 1) false 1 ∧ Below w.heap.size w w' :=
  (newInt_one w).mono fun e w' ⟨R, he, hb, hv, hf, hR, hg⟩ =>
    ⟨he, ⟨R, hb, hv, by omega, lt_of_block hb.hdr, Nat.le_refl _, fun k hk => ⟨hR k hk, Nt.has_lt hb.ok hk⟩, fun _ h => by cases h⟩, hf.below (Nat.le_refl _) (fun _ f => f.elim)⟩

/-- x.Neg(x) -/
theorem c_neg {lo hi bx : Nat} {v : Nat} (w : World) (hx : OwnG true w lo hi bx false v) (hv : v < B ^ 100) :
    Calls Yba.prog 13 #[.pointer (some ⟨bx, 0, none⟩), .pointer (some ⟨bx, 0, none⟩)] w fun e w' => e = .returned (.pointer (some ⟨bx, 0, none⟩)) ∧ OwnG true w' lo hi bx (decide (0 < v)) v ∧ Below lo w w' := by
  obtain ⟨X, h1, h2, h3, h4, h5, h6, h7⟩ := hx
  have hl := len_bound h1.ok h2 hv
  refine (neg_self bx false X w h1 (by omega)).mono fun e w' ⟨he, hb, hf⟩ => ?_
  have e1 : (decide (0 < X.len) && !false) = decide (0 < v) := by
    by_cases h0 : v = 0
    · rw [h7 rfl h0, h0]; rfl
    · have hp : 0 < X.len := by
        apply Nat.pos_of_ne_zero
        intro h
        have := Nt.num_len0 h
        omega
      simp [hp]; omega
  rw [e1] at hb
  exact ⟨he, ⟨X, hb, h2, h3, h4, Nat.le_trans h5 hf.size, h6, h7⟩, hf.below (by omega) (fun k hk => by omega)⟩
end Go.Proofs.Ybulkanxo
