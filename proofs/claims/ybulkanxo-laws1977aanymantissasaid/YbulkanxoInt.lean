/-
  math/big.Int in memory: SetUint64, Lsh.
-/
import Derived.Test.YbulkanxoNatOps
import Derived.Deep.RegionWith
namespace Go.Proofs.Ybulkanxo
open Go.RowKit
set_option linter.unusedVariables false

/-- The struct of a big.Int. -/
def hdr (neg : Bool) (v : Value) : Obj := .cells #[.bool neg, v] 37
theorem hdr_neg {w : World} {b : Nat} {neg : Bool} {v : Value} (h : w.heap[b]? = some (hdr neg v)) : w.cell? ⟨b, 0, none⟩ = some (.bool neg) := by simp [World.cell?, h, hdr]
theorem hdr_abs {w : World} {b : Nat} {neg : Bool} {v : Value} (h : w.heap[b]? = some (hdr neg v)) : w.cell? ⟨b, 1, none⟩ = some v := by simp [World.cell?, h, hdr]
theorem hdr_free {w : World} {b i : Nat} {neg : Bool} {v : Value} (h : w.heap[b]? = some (hdr neg v)) : w.frozen? ⟨b, i, none⟩ = false := frozen_of_row w b i _ 37 h
theorem hdr_set0 {w : World} {b : Nat} {neg n2 : Bool} {v : Value} (h : w.heap[b]? = some (hdr neg v)) : (w.setCell ⟨b, 0, none⟩ (.bool n2)).heap[b]? = some (hdr n2 v) := by
  rw [heap_setCell_same w b 0 _ _ _ h]; rfl
theorem hdr_set1 {w : World} {b : Nat} {neg : Bool} {v v2 : Value} (h : w.heap[b]? = some (hdr neg v)) : (w.setCell ⟨b, 1, none⟩ v2).heap[b]? = some (hdr neg v2) := by
  rw [heap_setCell_same w b 1 _ _ _ h]; rfl
theorem hdr_not_row {neg : Bool} {v : Value} {cs : List Nat} : hdr neg v ≠ row cs := by
  intro h
  have := congrArg (fun o => match o with | Obj.cells _ t _ => t | _ => 0) h
  simp [hdr, row] at this
theorem Nt.not_hdr {w : World} {X : Nt} (hX : X.ok w) {b : Nat} {neg : Bool} {v : Value} (h : w.heap[b]? = some (hdr neg v)) : ¬ X.has b := by
  cases X with
  | nil => exact fun h => h
  | blk g cs n =>
    intro (e : b = g)
    subst e
    have := hX.1
    rw [h] at this
    exact hdr_not_row (Option.some.inj this)
theorem Nt.is_slice (X : Nt) : ∃ a n c, X.v = .slice a n c := by cases X <;> exact ⟨_, _, _, rfl⟩

/-- A big.Int at block b: its sign, its number. -/
structure BigAt (w : World) (b : Nat) (neg : Bool) (X : Nt) : Prop where
  hdr : w.heap[b]? = some (hdr neg X.v)
  ok : X.ok w

theorem BigAt.fr {S : Nat → Prop} {w w' : World} {b : Nat} {neg : Bool} {X : Nt} (h : BigAt w b neg X) (hf : Fr S w w') (hb : ¬ S b) (hX : ∀ k, X.has k → ¬ S k) : BigAt w' b neg X :=
  ⟨(hf.block b (lt_of_block h.hdr) hb).trans h.hdr, Nt.ok_fr h.ok hf hX⟩

theorem lsh_after {w w1 : World} {bz bx : Nat} {negx : Bool} {X R : Nt} {a : Option Addr} {n c v : Nat} (hz : w.heap[bz]? = some (hdr false (.slice none 0 0))) (hx : w.heap[bx]? = some (hdr negx X.v)) (hXv : X.v = .slice a n c)
    (hR : R.ok w1 ∧ R.num = v ∧ Fr (fun _ => False) w.drew w1 ∧ (∀ k, R.has k → False ∨ w.drew.heap.size ≤ k) ∧ (v = 0 → R = .nil)) :
    w1.cell? ⟨bz, 1, none⟩ = some (.slice none 0 0) ∧ w1.cell? ⟨bz, 0, none⟩ = some (.bool false) ∧ w1.cell? ⟨bx, 0, none⟩ = some (.bool negx) ∧ w1.cell? ⟨bx, 1, none⟩ = some (.slice a n c) ∧ w1.frozen? ⟨bz, 1, none⟩ = false ∧ w1.frozen? ⟨bz, 0, none⟩ = false ∧
      Hid (w1.heap[bz]? = some (hdr false (.slice none 0 0)) ∧ w1.heap[bx]? = some (hdr negx X.v) ∧ R.ok w1 ∧ R.num = v ∧ Fr (fun _ => False) w w1 ∧ (∀ k, R.has k → w.heap.size ≤ k) ∧ (v = 0 → R = .nil)) := by
  obtain ⟨h1, h2, h3, h4, h5⟩ := hR
  have h3' := h3.undrew
  have e1 := (h3'.block bz (lt_of_block hz) (fun f => f)).trans hz
  have e2 := (h3'.block bx (lt_of_block hx) (fun f => f)).trans hx
  exact ⟨hdr_abs e1, hdr_neg e1, hdr_neg e2, by rw [← hXv]; exact hdr_abs e2, hdr_free e1, hdr_free e1, hid ⟨e1, e2, h1, h2, h3', fun k hk => (h4 k hk).resolve_left (fun f => f), h5⟩⟩

set_option maxHeartbeats 1000000 in
theorem lsh_fresh (bz bx : Nat) (negx : Bool) (X : Nt) (s : Nat) (w : World) (hz : w.heap[bz]? = some (hdr false (.slice none 0 0))) (hx : BigAt w bx negx X) (hne : bx ≠ bz) (lx : X.len + s / 64 ≤ 900) :
    Calls Yba.prog 11 #[.pointer (some ⟨bz, 0, none⟩), .pointer (some ⟨bx, 0, none⟩), .int .u64 (s : Int)] w fun e w' =>
      ∃ R : Nt, e = .returned (.pointer (some ⟨bz, 0, none⟩)) ∧ BigAt w' bz negx R ∧ R.num = X.num * 2 ^ s ∧ Fr (· = bz) w w' ∧ (∀ k, R.has k → w.heap.size ≤ k) ∧ (R.num = 0 → R = .nil) := by
  obtain ⟨a, n, c, hXv⟩ := X.is_slice
  have hn := natLsh X s w.drew hx.ok lx
  rw [hXv] at hn
  have cz1 := hdr_abs hz
  have cx1 : w.cell? ⟨bx, 1, none⟩ = some (.slice a n c) := by rw [← hXv]; exact hdr_abs hx.hdr
  have HN := hid hn
  have HV := hid hXv
  have HNE := hid hne
  clear hn hXv hne
  go_enter Yba.func11, Yba.ntmps11
  go_wp2
  go_region_with (go_at_call 28; refine HN.out.mono ?_; rintro e w1 ⟨R, rfl, hR⟩; obtain ⟨k1, k2, k3, k4, k5, k6, HR⟩ := lsh_after hz hx.hdr HV.out hR; obtain ⟨a2, n2, c2, hRv⟩ := R.is_slice; rw [hRv]; have HRV := hid hRv; clear hRv hR)
  all_goals go_wp2
  all_goals
    go_ret
    have hne := HNE.out
    obtain ⟨r1, r2, r3, r4, r5, r6, r7⟩ := HR.out
    have hb1 := hdr_set1 (v2 := .slice a2 n2 c2) r1
    have hb2 := hdr_set0 (n2 := negx) hb1
    have hf : Fr (· = bz) w _ := ((r5.mono (T := (· = bz)) (fun _ _ f => f.elim)).setCell (ad := ⟨bz, 1, none⟩) (fun _ => rfl) (.slice a2 n2 c2)).setCell (ad := ⟨bz, 0, none⟩) (fun _ => rfl) (.bool negx)
    have hok : R.ok ((w1.setCell ⟨bz, 1, none⟩ (.slice a2 n2 c2)).setCell ⟨bz, 0, none⟩ (.bool negx)) :=
      Nt.ok_fr r3 (((Fr.refl (· = bz) w1).setCell (ad := ⟨bz, 1, none⟩) (fun _ => rfl) _).setCell (ad := ⟨bz, 0, none⟩) (fun _ => rfl) _) (fun k hk e => Nt.not_hdr r3 r1 (by rw [← e]; exact hk))
    refine ⟨R, rfl, ⟨by rw [HRV.out]; exact hb2, hok⟩, r4, hf, r6, fun h => r7 (by rw [← r4]; exact h)⟩
end Go.Proofs.Ybulkanxo
