/-
  math/big.nat: numbers in memory; same, alias; the contracts of add, sub, lsh, cmp, set on numbers.
-/
import Derived.Test.YbulkanxoLsh
namespace Go.Proofs.Ybulkanxo
open Go.RowKit
set_option linter.unusedVariables false

set_option maxHeartbeats 400000 in
theorem same_nil (a : Option Addr) (n k : Nat) (w : World) (hn : n ≤ 1000) :
    Calls Yba.prog 44 #[.slice none 0 0, .slice a n k] w fun e w' => e = .returned (.bool false) ∧ ∃ d, w' = w.drewN d := by
  by_cases h : n = 0
  · subst h
    go_enter Yba.func44, Yba.ntmps44
    go_wp2_with fail
    go_quiet (fail)
    go_wp2
    go_ret
    exact ⟨rfl, _, rfl⟩
  · have hb : ((0 : Int) == (n : Int)) = false := by simp; omega
    go_enter Yba.func44, Yba.ntmps44
    go_wp2_with fail
    go_quiet (fail)
    go_wp2
    go_ret
    exact ⟨rfl, _, rfl⟩
set_option maxHeartbeats 400000 in
theorem alias_nil (a : Option Addr) (n k : Nat) (w : World) :
    Calls Yba.prog 45 #[.slice none 0 0, .slice a n k] w fun e w' => e = .returned (.bool false) ∧ ∃ d, w' = w.drewN d := by
  go_enter Yba.func45, Yba.ntmps45
  go_wp2_with fail
  go_quiet (fail)
  go_wp2
  go_ret
  exact ⟨rfl, _, rfl⟩

/-! ### Numbers in memory -/
/-- A nat: nil, or the first n words of a row. -/
inductive Nt where
  | nil
  | blk (g : Nat) (cs : List Nat) (n : Nat)
namespace Nt
def v : Nt → Value
  | nil => .slice none 0 0
  | blk g cs n => .slice (some ⟨g, 0, none⟩) n cs.length
def ok (w : World) : Nt → Prop
  | nil => True
  | blk g cs n => w.heap[g]? = some (row cs) ∧ Words cs ∧ n ≤ cs.length ∧ Normed cs n
def num : Nt → Nat
  | nil => 0
  | blk _ cs n => val (cs.take n)
def len : Nt → Nat
  | nil => 0
  | blk _ _ n => n
def has : Nt → Nat → Prop
  | nil, _ => False
  | blk g _ _, k => k = g
/-- Not an empty slice over a row. -/
def good : Nt → Prop
  | nil => True
  | blk _ _ n => 0 < n
theorem num_pos {w : World} {R : Nt} (h : R.ok w) (hl : 0 < R.len) : 0 < R.num := by
  cases R with
  | nil => cases hl
  | blk g cs n =>
    obtain ⟨_, _, h3, h4⟩ := h
    have := val_ge h4 h3 hl
    exact Nat.lt_of_lt_of_le (Nat.pow_pos B_pos) this
theorem len_le {w : World} {R : Nt} (h : R.ok w) {k : Nat} (hk : R.num < B ^ k) : R.len ≤ k := by
  cases R with
  | nil => exact Nat.zero_le _
  | blk g cs n =>
    obtain ⟨_, _, h3, h4⟩ := h
    apply Classical.byContradiction
    intro hn
    have hn' : k < n := Nat.lt_of_not_le hn
    have h1 := val_ge h4 h3 (by omega)
    have h2 : B ^ k ≤ B ^ (n - 1) := Nat.pow_le_pow_right B_pos (by omega)
    have : val (cs.take n) < B ^ k := hk
    omega
theorem good_of {R : Nt} (h : R.num = 0 → R = nil) : R.good := by
  cases R with
  | nil => trivial
  | blk g cs n =>
    show 0 < n
    apply Nat.pos_of_ne_zero
    intro e
    subst e
    have := h rfl
    cases this
theorem ok_fr {S : Nat → Prop} {w w' : World} {R : Nt} (h : R.ok w) (hf : Fr S w w') (hS : ∀ k, R.has k → ¬ S k) : R.ok w' := by
  cases R with
  | nil => trivial
  | blk g cs n => exact ⟨(hf.block g (lt_of_block h.1) (hS g rfl)).trans h.1, h.2⟩
theorem has_lt {w : World} {R : Nt} (h : R.ok w) {k : Nat} (hk : R.has k) : k < w.heap.size := by
  cases R with
  | nil => cases hk
  | blk g cs n => obtain rfl : k = g := hk; exact lt_of_block h.1
end Nt

/-- What a function of numbers leaves: a number equal to v, in Z's own row (S) or in a new one. -/
def Res (S : Nat → Prop) (w w' : World) (v : Nat) (e : Ending) : Prop :=
  ∃ R : Nt, e = .returned R.v ∧ R.ok w' ∧ R.num = v ∧ Fr S w w' ∧ (∀ k, R.has k → S k ∨ w.heap.size ≤ k)
/-- .. and 0 is nil. -/
def ResG (S : Nat → Prop) (w w' : World) (v : Nat) (e : Ending) : Prop :=
  ∃ R : Nt, e = .returned R.v ∧ R.ok w' ∧ R.num = v ∧ Fr S w w' ∧ (∀ k, R.has k → S k ∨ w.heap.size ≤ k) ∧ (v = 0 → R = .nil)

theorem res_new {S : Nat → Prop} {w w' : World} {o : Obj} {kz v : Nat} {e : Ending} (h : NatOut (w.alloc o) w' w.heap.size kz v e) : Res S w w' v e := by
  obtain ⟨L, k, he, hr, hl, hw, hk, hn, hv, hf⟩ := h
  subst hl
  exact ⟨.blk w.heap.size L k, he, ⟨hr, hw, hk, hn⟩, hv, ((Fr.refl S w).alloc o).trans' hf (fun i hi (t : i = _) => absurd t (by omega)), fun j (hj : j = _) => .inr (by omega)⟩
theorem res_old {w w' : World} {g kz v : Nat} {e : Ending} (h : NatOut w w' g kz v e) : Res (· = g) w w' v e := by
  obtain ⟨L, k, he, hr, hl, hw, hk, hn, hv, hf⟩ := h
  subst hl
  exact ⟨.blk g L k, he, ⟨hr, hw, hk, hn⟩, hv, hf, fun j hj => .inl hj⟩
theorem Res.good {S : Nat → Prop} {w w' : World} {v : Nat} {e : Ending} (h : Res S w w' v e) (hv : 0 < v) : ResG S w w' v e := by
  obtain ⟨R, a, b, c, d, f⟩ := h
  exact ⟨R, a, b, c, d, f, fun h0 => absurd h0 (by omega)⟩
theorem ResG.weak {S : Nat → Prop} {w w' : World} {v : Nat} {e : Ending} (h : ResG S w w' v e) : Res S w w' v e := by
  obtain ⟨R, a, b, c, d, f, _⟩ := h
  exact ⟨R, a, b, c, d, f⟩
theorem Res.mono {S T : Nat → Prop} {w w' : World} {v : Nat} {e : Ending} (h : Res S w w' v e) (hST : ∀ i, S i → T i) : Res T w w' v e := by
  obtain ⟨R, a, b, c, d, f⟩ := h
  exact ⟨R, a, b, c, d.mono (fun i _ hi => hST i hi), fun k hk => (f k hk).imp (hST k) id⟩

/-! ### cmp -/
theorem natCmp (X Y : Nt) (w : World) (hX : X.ok w) (hY : Y.ok w) (lx : X.len ≤ 1000) (ly : Y.len ≤ 1000) :
    Calls Yba.prog 30 #[X.v, Y.v] w fun e w' => e = .returned (.int .i64 (cmpN X.num Y.num)) ∧ ∃ d, w' = w.drewN d := by
  have fin0 : ∀ {v : Ending}, Calls Yba.prog 30 #[X.v, Y.v] w (fun e w' => e = v ∧ w' = w) → Calls Yba.prog 30 #[X.v, Y.v] w (fun e w' => e = v ∧ ∃ d, w' = w.drewN d) :=
    fun h => h.mono fun _ _ ⟨a, b⟩ => ⟨a, 0, b⟩
  cases X with
  | nil =>
    cases Y with
    | nil => exact fin0 (cmp_zero _ _ _ _ w)
    | blk gy cy n =>
      by_cases h : n = 0
      · subst h
        have e : cmpN Nt.nil.num (Nt.blk gy cy 0).num = 0 := by simp [Nt.num, val, cmpN]
        rw [e]; exact fin0 (cmp_zero _ _ _ _ w)
      · have hp := Nt.num_pos hY (Nat.pos_of_ne_zero h)
        have e : cmpN Nt.nil.num (Nt.blk gy cy n).num = -1 := cmpN_lt hp
        rw [e]; exact fin0 (cmp_lens _ _ 0 n _ _ w (by omega) ly (Nat.pos_of_ne_zero h))
  | blk gx cx m =>
    obtain ⟨x1, x2, x3, x4⟩ := hX
    cases Y with
    | nil =>
      by_cases h : m = 0
      · subst h
        have e : cmpN (Nt.blk gx cx 0).num Nt.nil.num = 0 := by simp [Nt.num, val, cmpN]
        rw [e]; exact fin0 (cmp_zero _ _ _ _ w)
      · have hp := Nt.num_pos (R := Nt.blk gx cx m) (w := w) ⟨x1, x2, x3, x4⟩ (Nat.pos_of_ne_zero h)
        have e : cmpN (Nt.blk gx cx m).num Nt.nil.num = 1 := cmpN_gt hp
        rw [e]; exact fin0 (cmp_lens' _ _ m 0 _ _ w lx (by omega) (Nat.pos_of_ne_zero h))
    | blk gy cy n =>
      obtain ⟨y1, y2, y3, y4⟩ := hY
      rcases Nat.lt_trichotomy m n with h | h | h
      · have e : cmpN (Nt.blk gx cx m).num (Nt.blk gy cy n).num = -1 := cmpN_lt (len_lt x2 x3 y3 y4 h)
        rw [e]; exact fin0 (cmp_lens _ _ m n _ _ w lx ly h)
      · subst h
        by_cases h0 : m = 0
        · subst h0
          have e : cmpN (Nt.blk gx cx 0).num (Nt.blk gy cy 0).num = 0 := by simp [Nt.num, val, cmpN]
          rw [e]; exact fin0 (cmp_zero _ _ _ _ w)
        · exact cmp_words gx gy m _ _ cx cy w x1 y1 x3 y3 x2 y2 (Nat.pos_of_ne_zero h0) lx
      · have e : cmpN (Nt.blk gx cx m).num (Nt.blk gy cy n).num = 1 := cmpN_gt (len_lt y2 y3 x3 x4 h)
        rw [e]; exact fin0 (cmp_lens' _ _ m n _ _ w lx ly h)

/-! ### set into nil -/
theorem natSet (X : Nt) (w : World) (hX : X.ok w) (lx : X.len ≤ 1000) : Calls Yba.prog 46 #[.slice none 0 0, X.v] w fun e w' => ResG (fun _ => False) w w' X.num e := by
  have nilCase : ∀ (a : Option Addr) (c : Nat), Calls Yba.prog 46 #[.slice none 0 0, .slice a 0 c] w fun e w' => ResG (fun _ => False) w w' 0 e := fun a c =>
    (set_zero a c w).mono fun e w' ⟨he, hw⟩ => by subst hw; exact ⟨.nil, he, trivial, rfl, Fr.refl _ _, (fun _ h => by cases h), fun _ => rfl⟩
  cases X with
  | nil => exact nilCase _ _
  | blk gx cx n =>
    obtain ⟨x1, x2, x3, x4⟩ := hX
    by_cases h0 : n = 0
    · subst h0; exact nilCase _ _
    have hp := Nt.num_pos (R := Nt.blk gx cx n) (w := w) ⟨x1, x2, x3, x4⟩ (Nat.pos_of_ne_zero h0)
    by_cases h1 : n = 1
    · subst h1
      refine (set_one gx cx w x1 x3).mono fun e w' ⟨he, hr, hf, hs⟩ => ?_
      have e1 : (cx.take 1).length = 1 := by simp; omega
      refine Res.good ⟨.blk w.heap.size (cx.take 1) 1, ?_, ⟨hr, x2.take 1, by omega, ?_⟩, ?_, hf, fun k (hk : k = _) => .inr (by omega)⟩ hp
      · rw [he]; show _ = Ending.returned (Value.slice _ _ (cx.take 1).length); rw [e1]
      · intro h; have := x4 h; simpa [List.getD] using this
      · show val ((cx.take 1).take 1) = val (cx.take 1); rw [List.take_take, Nat.min_self]
    · refine (set_more gx n cx w x1 x3 (by omega) lx).mono fun e w' ⟨he, hr, hf, hs⟩ => ?_
      have e1 : (cx.take n ++ List.replicate 4 0).length = n + 4 := by simp; omega
      have e2 : (cx.take n).length = n := by simp; omega
      refine Res.good ⟨.blk w.heap.size (cx.take n ++ List.replicate 4 0) n, ?_, ⟨hr, (x2.take n).append (Words.replicate 4), by omega, ?_⟩, ?_, hf, fun k (hk : k = _) => .inr (by omega)⟩ hp
      · rw [he]; show _ = Ending.returned (Value.slice _ _ (cx.take n ++ List.replicate 4 0).length); rw [e1]
      · intro h
        have := x4 h
        have e3 : (cx.take n ++ List.replicate 4 0).getD (n - 1) 0 = cx.getD (n - 1) 0 := by
          simp only [List.getD]
          rw [List.getElem?_append_left (by omega), List.getElem?_take, if_pos (by omega)]
        rwa [e3]
      · show val ((cx.take n ++ List.replicate 4 0).take n) = val (cx.take n)
        rw [List.take_append_of_le_length (by omega), List.take_take, Nat.min_self]
end Go.Proofs.Ybulkanxo
