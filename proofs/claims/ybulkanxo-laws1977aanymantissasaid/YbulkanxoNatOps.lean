/-
  math/big.nat: add, sub, lsh on numbers.
-/
import Derived.Test.YbulkanxoNat
namespace Go.Proofs.Ybulkanxo
open Go.RowKit
set_option linter.unusedVariables false

set_option maxHeartbeats 400000 in
theorem add_set {S : Nat → Prop} {v : Nat} (Zv : Value) (ax ay : Option Addr) (m kx ky : Nat) (h1 : 1 ≤ m) (hm : m ≤ 1000) (w : World)
    (h : Calls Yba.prog 46 #[Zv, .slice ax m kx] w fun e w' => ResG S w w' v e) : Calls Yba.prog 29 #[Zv, .slice ax m kx, .slice ay 0 ky] w fun e w' => ResG S w w' v e := by
  have hb1 : ((m : Int) == 0) = false := by simp; omega
  have hb2 : ¬ ((m : Int) < 0) := by omega
  go_enter Yba.func29, Yba.ntmps29
  go_wp2_with (go_at_call 46; refine h.mono ?_; rintro e w' ⟨R, rfl, hR⟩)
  go_ret
  exact ⟨R, rfl, hR⟩
set_option maxHeartbeats 400000 in
theorem add_swap {S : Nat → Prop} {v : Nat} (Zv : Value) (ax ay : Option Addr) (m n kx ky : Nat) (hm : m < n) (hn : n ≤ 1000) (w : World)
    (h : Calls Yba.prog 29 #[Zv, .slice ay n ky, .slice ax m kx] w fun e w' => ResG S w w' v e) : Calls Yba.prog 29 #[Zv, .slice ax m kx, .slice ay n ky] w fun e w' => ResG S w w' v e := by
  go_enter Yba.func29, Yba.ntmps29
  go_wp2_with (go_at_call 29; refine h.mono ?_; rintro e w' ⟨R, rfl, hR⟩)
  go_ret
  exact ⟨R, rfl, hR⟩
set_option maxHeartbeats 400000 in
theorem add_nil (w : World) : Calls Yba.prog 29 #[.slice none 0 0, .slice none 0 0, .slice none 0 0] w fun e w' => e = .returned (.slice none 0 0) ∧ w' = w := by
  go_enter Yba.func29, Yba.ntmps29
  go_wp2
  go_ret
  exact ⟨rfl, rfl⟩

theorem make_reuse' (g n m : Nat) (cs : List Nat) (w : World) (hm : m + 1 ≤ cs.length) :
    Calls Yba.prog 43 #[.slice (some ⟨g, 0, none⟩) n cs.length, .int .i64 ((m : Int) + 1)] w fun e w' => .returned (.slice (some ⟨g, 0, none⟩) (m + 1) cs.length) = e ∧ w = w' := by
  have := make_reuse g n (m + 1) cs w hm
  have e : ((m + 1 : Nat) : Int) = (m : Int) + 1 := by omega
  rw [e] at this
  exact this.mono fun _ _ ⟨a, b⟩ => ⟨a.symm, b.symm⟩

/-- set into itself. -/
theorem natSet_self (g n : Nat) (cs : List Nat) (w : World) (hX : (Nt.blk g cs n).ok w) (hn : 0 < n) :
    Calls Yba.prog 46 #[(Nt.blk g cs n).v, (Nt.blk g cs n).v] w fun e w' => ResG (Nt.blk g cs n).has w w' (Nt.blk g cs n).num e :=
  (set_self g n cs w hX.1 hX.2.2.1).mono fun e w' ⟨he, hw⟩ => by
    subst hw
    exact Res.good ⟨.blk g cs n, he, hX, rfl, Fr.refl _ _, fun k hk => .inl hk⟩ (Nt.num_pos hX hn)

theorem natAdd_ge (Z X Y : Nt) (w : World) (hX : X.ok w) (hY : Y.ok w) (gX : X.good) (gY : Y.good) (hZ : Z = .nil ∨ Z = X ∨ Z = Y) (hge : Y.len ≤ X.len) (lx : X.len ≤ 900) :
    Calls Yba.prog 29 #[Z.v, X.v, Y.v] w fun e w' => ResG Z.has w w' (X.num + Y.num) e := by
  cases X with
  | nil =>
    cases Y with
    | nil =>
      obtain rfl : Z = .nil := by rcases hZ with h | h | h <;> exact h
      exact (add_nil w).mono fun e w' ⟨he, hw⟩ => by subst hw; exact ⟨.nil, he, trivial, rfl, Fr.refl _ _, (fun _ h => by cases h), fun _ => rfl⟩
    | blk gy cy n => exact absurd (Nat.lt_of_lt_of_le (show 0 < n from gY) hge) (Nat.lt_irrefl _)
  | blk gx cx m =>
    have hp := Nt.num_pos hX (show 0 < (Nt.blk gx cx m).len from gX)
    cases Y with
    | nil =>
      show Calls Yba.prog 29 #[Z.v, .slice (some ⟨gx, 0, none⟩) m cx.length, .slice none 0 0] w _
      rcases hZ with h | h | h
      · subst h
        exact add_set _ _ _ m _ _ gX (Nat.le_trans lx (by decide)) w (natSet (Nt.blk gx cx m) w hX (Nat.le_trans lx (by decide)))
      · subst h
        exact add_set _ _ _ m _ _ gX (Nat.le_trans lx (by decide)) w (natSet_self gx m cx w hX gX)
      · subst h
        exact add_set _ _ _ m _ _ gX (Nat.le_trans lx (by decide)) w (natSet (Nt.blk gx cx m) w hX (Nat.le_trans lx (by decide)))
    | blk gy cy n =>
      obtain ⟨x1, x2, x3, x4⟩ := hX
      obtain ⟨y1, y2, y3, y4⟩ := hY
      have hm900 : m ≤ 900 := lx
      have hn1 : 1 ≤ n := gY
      have hnm : n ≤ m := hge
      have hv : 0 < (Nt.blk gx cx m).num + (Nt.blk gy cy n).num := by omega
      -- the core, wherever z lies
      have core : ∀ (Zv : Value) (gz : Nat) (cz : List Nat) (W1 : World), W1.heap[gz]? = some (row cz) → W1.heap[gx]? = some (row cx) → W1.heap[gy]? = some (row cy) → m + 1 ≤ cz.length → Words cz →
          (Calls Yba.prog 43 #[Zv, .int .i64 ((m : Int) + 1)] w fun e w' => .returned (.slice (some ⟨gz, 0, none⟩) (m + 1) cz.length) = e ∧ W1 = w') →
          Calls Yba.prog 29 #[Zv, (Nt.blk gx cx m).v, (Nt.blk gy cy n).v] w fun e w' => NatOut W1 w' gz cz.length ((Nt.blk gx cx m).num + (Nt.blk gy cy n).num) e := by
        intro Zv gz cz W1 a1 a2 a3 a4 a5 a6
        rcases Nat.lt_or_ge n m with h | h
        · exact add_core_gt Zv gz gx gy m n _ _ cz cx cy w W1 a1 a2 a3 a4 x3 y3 x3 y3 x2 y2 a5 hn1 h (by omega) a6
        · obtain rfl : n = m := by omega
          exact add_core_eq Zv gz gx gy n _ _ cz cx cy w W1 a1 a2 a3 a4 x3 y3 x3 y3 x2 y2 a5 hn1 (by omega) a6
      have new : ∀ (a : Option Addr) (k cap : Nat), cap < m + 1 → Calls Yba.prog 29 #[.slice a k cap, (Nt.blk gx cx m).v, (Nt.blk gy cy n).v] w fun e w' => Res Z.has w w' ((Nt.blk gx cx m).num + (Nt.blk gy cy n).num) e := by
        intro a k cap hc
        refine (core _ w.heap.size (List.replicate (m + 5) 0) _ (heap_new w _) (row_alloc x1) (row_alloc y1) (by simp) (Words.replicate _) ?_).mono fun e w' h => res_new h
        have := make_more' a k cap m hc (by omega) (by omega) w
        rw [List.length_replicate]
        exact this
      refine Calls.mono ?_ fun e w' h => Res.good h hv
      have old : ∀ (g k : Nat) (cs : List Nat), (Nt.blk g cs k).ok w → Z = .blk g cs k → Calls Yba.prog 29 #[Z.v, (Nt.blk gx cx m).v, (Nt.blk gy cy n).v] w fun e w' => Res Z.has w w' ((Nt.blk gx cx m).num + (Nt.blk gy cy n).num) e := by
        intro g k cs hok hZe
        rcases Nat.lt_or_ge cs.length (m + 1) with h | h
        · have := new (some ⟨g, 0, none⟩) k cs.length h
          rw [hZe] at this ⊢
          exact this
        · subst hZe
          exact (core _ g cs w hok.1 x1 y1 h hok.2.1 (make_reuse' g k m cs w h)).mono fun e w' h => res_old h
      rcases hZ with h | h | h
      · have := new none 0 0 (by omega)
        rw [h] at this ⊢
        exact this
      · exact old gx m cx ⟨x1, x2, x3, x4⟩ h
      · exact old gy n cy ⟨y1, y2, y3, y4⟩ h

theorem natAdd (Z X Y : Nt) (w : World) (hX : X.ok w) (hY : Y.ok w) (gX : X.good) (gY : Y.good) (hZ : Z = .nil ∨ Z = X ∨ Z = Y) (lx : X.len ≤ 900) (ly : Y.len ≤ 900) :
    Calls Yba.prog 29 #[Z.v, X.v, Y.v] w fun e w' => ResG Z.has w w' (X.num + Y.num) e := by
  rcases Nat.lt_or_ge X.len Y.len with h | h
  · have := natAdd_ge Z Y X w hY hX gY gX (by rcases hZ with h | h | h; exact .inl h; exact .inr (.inr h); exact .inr (.inl h)) (Nat.le_of_lt h) ly
    rw [Nat.add_comm] at this
    cases X with
    | nil =>
      cases Y with
      | nil => exact absurd h (Nat.lt_irrefl _)
      | blk gy cy n => exact add_swap _ _ _ 0 n _ _ h (Nat.le_trans ly (by decide)) w this
    | blk gx cx m =>
      cases Y with
      | nil => exact absurd h (Nat.not_lt_zero _)
      | blk gy cy n => exact add_swap _ _ _ m n _ _ h (Nat.le_trans ly (by decide)) w this
  · exact natAdd_ge Z X Y w hX hY gX gY hZ h lx

/-! ### sub into nil -/
set_option maxHeartbeats 400000 in
theorem sub_zero (ax ay : Option Addr) (kx ky : Nat) (w : World) : Calls Yba.prog 31 #[.slice none 0 0, .slice ax 0 kx, .slice ay 0 ky] w fun e w' => e = .returned (.slice none 0 0) ∧ w' = w := by
  go_enter Yba.func31, Yba.ntmps31
  go_wp2
  go_ret
  exact ⟨rfl, rfl⟩
set_option maxHeartbeats 400000 in
theorem sub_set {S : Nat → Prop} {v : Nat} (Zv : Value) (ax ay : Option Addr) (m kx ky : Nat) (h1 : 1 ≤ m) (hm : m ≤ 1000) (w : World)
    (h : Calls Yba.prog 46 #[Zv, .slice ax m kx] w fun e w' => ResG S w w' v e) : Calls Yba.prog 31 #[Zv, .slice ax m kx, .slice ay 0 ky] w fun e w' => ResG S w w' v e := by
  have hb1 : ((m : Int) == 0) = false := by simp; omega
  have hb2 : ¬ ((m : Int) < 0) := by omega
  go_enter Yba.func31, Yba.ntmps31
  go_wp2_with (go_at_call 46; refine h.mono ?_; rintro e w' ⟨R, rfl, hR⟩)
  go_ret
  exact ⟨R, rfl, hR⟩

theorem natSub (X Y : Nt) (w : World) (hX : X.ok w) (hY : Y.ok w) (hle : Y.num ≤ X.num) (lx : X.len ≤ 900) :
    Calls Yba.prog 31 #[.slice none 0 0, X.v, Y.v] w fun e w' => Res (fun _ => False) w w' (X.num - Y.num) e := by
  have zero : ∀ ax ay kx ky, Calls Yba.prog 31 #[.slice none 0 0, .slice ax 0 kx, .slice ay 0 ky] w fun e w' => Res (fun _ => False) w w' 0 e := fun ax ay kx ky =>
    (sub_zero ax ay kx ky w).mono fun e w' ⟨he, hw⟩ => by subst hw; exact ⟨.nil, he, trivial, rfl, Fr.refl _ _, fun _ h => by cases h⟩
  cases X with
  | nil =>
    cases Y with
    | nil => exact zero _ _ _ _
    | blk gy cy n =>
      by_cases hn : n = 0
      · subst hn; exact zero _ _ _ _
      · exact absurd (Nt.num_pos hY (Nat.pos_of_ne_zero hn)) (Nat.not_lt.2 hle)
  | blk gx cx m =>
    by_cases hm0 : m = 0
    · subst hm0
      cases Y with
      | nil => exact zero _ _ _ _
      | blk gy cy n =>
        by_cases hn : n = 0
        · subst hn; exact zero _ _ _ _
        · exact absurd (Nt.num_pos hY (Nat.pos_of_ne_zero hn)) (Nat.not_lt.2 hle)
    have hm900 : m ≤ 900 := lx
    have setCase : ∀ ay ky, Calls Yba.prog 31 #[.slice none 0 0, (Nt.blk gx cx m).v, .slice ay 0 ky] w fun e w' => Res (fun _ => False) w w' ((Nt.blk gx cx m).num - 0) e := fun ay ky =>
      (sub_set _ _ _ m _ _ (Nat.pos_of_ne_zero hm0) (by omega) w (natSet (Nt.blk gx cx m) w hX (Nat.le_trans lx (by decide)))).mono fun _ _ h => h.weak
    cases Y with
    | nil => exact setCase _ _
    | blk gy cy n =>
      by_cases hn0 : n = 0
      · subst hn0; exact setCase _ _
      obtain ⟨x1, x2, x3, x4⟩ := hX
      obtain ⟨y1, y2, y3, y4⟩ := hY
      have hnm : n ≤ m := by
        apply Nat.le_of_not_lt
        intro h
        have h2 : val (cx.take m) < val (cy.take n) := len_lt x2 x3 y3 y4 h
        exact absurd h2 (Nat.not_lt.2 hle)
      rcases Nat.lt_or_ge n m with h | h
      · have hmk : Calls Yba.prog 43 #[.slice none 0 0, .int .i64 (m : Int)] w fun e w' => .returned (.slice (some ⟨w.heap.size, 0, none⟩) m (List.replicate (m + 4) 0).length) = e ∧ w.alloc (row (List.replicate (m + 4) 0)) = w' := by
          rw [List.length_replicate]
          exact (make_more none 0 0 m (by omega) (by omega) (by omega) w).mono fun _ _ ⟨a, b⟩ => ⟨a.symm, b.symm⟩
        exact (sub_core_gt _ w.heap.size gx gy m n _ _ (List.replicate (m + 4) 0) cx cy w _ (heap_new w _) (row_alloc x1) (row_alloc y1) (hid (fun e => by have := lt_of_block x1; omega)) (by simp) x3 y3 x3 y3 x2 y2 (Words.replicate _)
          (Nat.pos_of_ne_zero hn0) h (by omega) (hid hle) hmk).mono fun e w' h => res_new h
      · obtain rfl : n = m := by omega
        by_cases h1 : n = 1
        · subst h1
          exact (sub_core_eq _ w.heap.size gx gy 1 _ _ [0] cx cy w _ (heap_new w _) (row_alloc x1) (row_alloc y1) (by simp) x3 y3 x3 y3 x2 y2 (Words.replicate 1) (by omega) (by omega) (hid hle)
            ((make_one none 0 w).mono fun _ _ ⟨a, b⟩ => ⟨a.symm, b.symm⟩)).mono fun e w' h => res_new h
        · have hmk : Calls Yba.prog 43 #[.slice none 0 0, .int .i64 (n : Int)] w fun e w' => .returned (.slice (some ⟨w.heap.size, 0, none⟩) n (List.replicate (n + 4) 0).length) = e ∧ w.alloc (row (List.replicate (n + 4) 0)) = w' := by
            rw [List.length_replicate]
            exact (make_more none 0 0 n (by omega) (by omega) (by omega) w).mono fun _ _ ⟨a, b⟩ => ⟨a.symm, b.symm⟩
          exact (sub_core_eq _ w.heap.size gx gy n _ _ (List.replicate (n + 4) 0) cx cy w _ (heap_new w _) (row_alloc x1) (row_alloc y1) (by simp) x3 y3 x3 y3 x2 y2 (Words.replicate _) (Nat.pos_of_ne_zero hn0) (by omega) (hid hle) hmk).mono fun e w' h => res_new h

/-! ### lsh -/
set_option maxHeartbeats 400000 in
theorem lsh_none (ax : Option Addr) (kx s : Nat) (hs : 0 < s) (w : World) : Calls Yba.prog 28 #[.slice none 0 0, .slice ax 0 kx, .int .u64 (s : Int)] w fun e w' => e = .returned (.slice none 0 0) ∧ w' = w := by
  have hb : ((s : Int) == 0) = false := by simp; omega
  go_enter Yba.func28, Yba.ntmps28
  go_wp2
  go_ret
  exact ⟨rfl, rfl⟩
set_option maxHeartbeats 400000 in
theorem lsh_by0 {v : Nat} (ax : Option Addr) (n kx : Nat) (hn : n ≤ 1000) (w : World) (h : ∀ d, Calls Yba.prog 46 #[.slice none 0 0, .slice ax n kx] (w.drewN d) fun e w' => ResG (fun _ => False) (w.drewN d) w' v e) :
    Calls Yba.prog 28 #[.slice none 0 0, .slice ax n kx, .int .u64 0] w fun e w' => ResG (fun _ => False) w w' v e := by
  have hnot : ∀ (x : Bool) (w : World), (Op.unary .not (.bool x)).run Yba.prog w = .ok (.bool (!x)) w := fun _ _ => rfl
  go_enter Yba.func28, Yba.ntmps28
  go_wp2_with fail
  refine (same_nil _ _ _ _ hn).mono ?_
  rintro e w1 ⟨rfl, d1, rfl⟩
  go_wp2_with fail
  refine (alias_nil _ _ _ _).mono ?_
  rintro e w1 ⟨rfl, d2, rfl⟩
  go_wp2_with fail
  refine (h _).mono ?_
  rintro e w1 ⟨R, rfl, hR⟩
  go_wp2
  go_ret
  exact ⟨R, rfl, hR.1, hR.2.1, hR.2.2.1.undrewN, hR.2.2.2.1, hR.2.2.2.2⟩

theorem and63 (r : Nat) (h : r < 64) : bits BinOp.and IntKind.u64 (r : Int) 63 = (r : Int) := by
  have := u64_and_nat r 63 (by omega) (by omega)
  have e : ((63 : Nat) : Int) = 63 := rfl
  rw [e] at this
  rw [this, nat_mask6, Nat.mod_eq_of_lt h]

/-- From a row z, nil or too small: a new row. -/
theorem lsh_new (a : Option Addr) (l cap gx m s : Nat) (cx : List Nat) (w : World) (hX : (Nt.blk gx cx m).ok w) (hm : 1 ≤ m) (hb : m + s / 64 ≤ 900) (hcap : cap < m + s / 64 + 1) (hpos : 0 < s) (S : Nat → Prop) :
    Calls Yba.prog 28 #[.slice a l cap, (Nt.blk gx cx m).v, .int .u64 (s : Int)] w fun e w' => ResG S w w' ((Nt.blk gx cx m).num * 2 ^ s) e := by
  have hv : 0 < (Nt.blk gx cx m).num * 2 ^ s := Nat.mul_pos (Nt.num_pos hX hm) (Nat.two_pow_pos s)
  obtain ⟨x1, x2, x3, x4⟩ := hX
  refine Calls.mono ?_ fun e w' (h : NatOut (w.alloc (row (List.replicate (m + s / 64 + 5) 0))) w' w.heap.size (m + s / 64 + 5) ((Nt.blk gx cx m).num * 2 ^ s) e) => Res.good (res_new h) hv
  by_cases hr : s % 64 = 0
  · exact lsh_whole a l cap gx m cx.length (s / 64) s (m + s / 64) cx w x1 x3 x2 hm hb hcap (hid rfl) (by omega) (by omega) (hid (by omega)) hpos (by omega) (by omega) (by omega) (hid (by omega)) (by omega)
  · exact lsh_part a l cap gx m cx.length (s / 64) (s % 64) (64 - s % 64) s (m + s / 64) cx w x1 x3 x2 hm hb hcap (hid rfl) (by omega) (by omega) (hid (by omega)) (by omega) (by omega) (hid (by omega)) hpos (by omega) (by omega) (by omega) (by omega) (by omega)
      (hid (and63 _ (by omega))) (hid (by omega)) (hid (and63 _ (by omega)))

theorem natLsh (X : Nt) (s : Nat) (w : World) (hX : X.ok w) (lx : X.len + s / 64 ≤ 900) : Calls Yba.prog 28 #[.slice none 0 0, X.v, .int .u64 (s : Int)] w fun e w' => ResG (fun _ => False) w w' (X.num * 2 ^ s) e := by
  by_cases hs : s = 0
  · subst hs
    rw [Nat.pow_zero, Nat.mul_one]
    cases X with
    | nil => exact lsh_by0 _ _ _ (by omega) w fun d => natSet .nil _ trivial (by decide)
    | blk g cs n => exact lsh_by0 _ _ _ (by have : n + 0 / 64 ≤ 900 := lx; omega) w fun d => natSet (.blk g cs n) (w.drewN d) hX (by have : n + 0 / 64 ≤ 900 := lx; show n ≤ 1000; omega)
  · have zero : ∀ ax kx, Calls Yba.prog 28 #[.slice none 0 0, .slice ax 0 kx, .int .u64 (s : Int)] w fun e w' => ResG (fun _ => False) w w' (0 * 2 ^ s) e := fun ax kx =>
      (lsh_none ax kx s (by omega) w).mono fun e w' ⟨he, hw⟩ => by subst hw; exact ⟨.nil, he, trivial, by simp [Nt.num], Fr.refl _ _, (fun _ h => by cases h), fun _ => rfl⟩
    cases X with
    | nil => exact zero _ _
    | blk g cs n =>
      by_cases hn : n = 0
      · subst hn; exact zero _ _
      · have lx' : n + s / 64 ≤ 900 := lx
        exact lsh_new none 0 0 g n s cs w hX (by omega) lx' (by omega) (by omega) _
end Go.Proofs.Ybulkanxo
