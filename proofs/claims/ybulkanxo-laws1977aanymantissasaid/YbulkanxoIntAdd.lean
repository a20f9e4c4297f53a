/-
  math/big.Int.Add of two numbers that are not negative.
-/
import Derived.Test.YbulkanxoInt
namespace Go.Proofs.Ybulkanxo
open Go.RowKit
set_option linter.unusedVariables false

/-- A struct that a callee has not touched. -/
theorem hdr_after {S : Nat → Prop} {w w1 : World} {b d : Nat} {neg : Bool} {v : Value} (h : w.heap[b]? = some (hdr neg v)) (hf : Fr S (w.drewN d) w1) (hS : ¬ S b) : w1.heap[b]? = some (hdr neg v) :=
  (hf.undrewN.block b (lt_of_block h) hS).trans h

theorem add_after {S : Nat → Prop} {w w1 : World} {d bz : Nat} {nz : Bool} {vz : Value} {v : Nat} {R : Nt} (hz : w.heap[bz]? = some (hdr nz vz)) (hS : ¬ S bz)
    (hR : R.ok w1 ∧ R.num = v ∧ Fr S (w.drewN d) w1 ∧ (∀ k, R.has k → S k ∨ (w.drewN d).heap.size ≤ k)) :
    w1.cell? ⟨bz, 1, none⟩ = some vz ∧ w1.cell? ⟨bz, 0, none⟩ = some (.bool nz) ∧ w1.frozen? ⟨bz, 1, none⟩ = false ∧ w1.frozen? ⟨bz, 0, none⟩ = false ∧
      Hid (w1.heap[bz]? = some (hdr nz vz) ∧ R.ok w1 ∧ R.num = v ∧ Fr S w w1 ∧ (∀ k, R.has k → S k ∨ w.heap.size ≤ k)) := by
  obtain ⟨h1, h2, h3, h4⟩ := hR
  have e1 := hdr_after hz h3 hS
  exact ⟨hdr_abs e1, hdr_neg e1, hdr_free e1, hdr_free e1, hid ⟨e1, h1, h2, h3.undrewN, h4⟩⟩

/-- The struct behind its two stores. -/
theorem stored {S : Nat → Prop} {w w1 : World} {bz : Nat} {nz neg : Bool} {vz : Value} {R : Nt} {a2 : Option Addr} {n2 c2 : Nat} (h : w1.heap[bz]? = some (hdr nz vz)) (hok : R.ok w1) (hf : Fr S w w1) (hv : R.v = .slice a2 n2 c2) :
    BigAt ((w1.setCell ⟨bz, 1, none⟩ (.slice a2 n2 c2)).setCell ⟨bz, 0, none⟩ (.bool neg)) bz neg R ∧ Fr (fun k => k = bz ∨ S k) w ((w1.setCell ⟨bz, 1, none⟩ (.slice a2 n2 c2)).setCell ⟨bz, 0, none⟩ (.bool neg)) := by
  have hb1 := hdr_set1 (v2 := .slice a2 n2 c2) h
  have hb2 := hdr_set0 (n2 := neg) hb1
  refine ⟨⟨by rw [hv]; exact hb2, ?_⟩, ?_⟩
  · exact Nt.ok_fr hok (((Fr.refl (· = bz) w1).setCell (ad := ⟨bz, 1, none⟩) (fun _ => rfl) _).setCell (ad := ⟨bz, 0, none⟩) (fun _ => rfl) _) (fun k hk e => Nt.not_hdr hok h (by rw [← e]; exact hk))
  · exact ((hf.mono (T := fun k => k = bz ∨ S k) (fun _ _ s => Or.inr s)).setCell (ad := ⟨bz, 1, none⟩) (fun _ => Or.inl rfl) _).setCell (ad := ⟨bz, 0, none⟩) (fun _ => Or.inl rfl) _

set_option maxHeartbeats 2000000 in
theorem add_int (bz bx bY : Nat) (nz : Bool) (Z X Y : Nt) (w : World) (hz : w.heap[bz]? = some (hdr nz Z.v)) (hZ : Z.ok w) (hx : BigAt w bx false X) (hy : BigAt w bY false Y) (gX : X.good) (gY : Y.good)
    (hZX : Z = .nil ∨ Z = X ∨ Z = Y) (lx : X.len ≤ 900) (ly : Y.len ≤ 900) :
    Calls Yba.prog 12 #[.pointer (some ⟨bz, 0, none⟩), .pointer (some ⟨bx, 0, none⟩), .pointer (some ⟨bY, 0, none⟩)] w fun e w' =>
      ∃ R : Nt, e = .returned (.pointer (some ⟨bz, 0, none⟩)) ∧ BigAt w' bz false R ∧ R.num = X.num + Y.num ∧ Fr (fun k => k = bz ∨ Z.has k) w w' ∧ (∀ k, R.has k → Z.has k ∨ w.heap.size ≤ k) ∧ (R.num = 0 → R = .nil) := by
  obtain ⟨ax, nx, cx, hXv⟩ := X.is_slice
  obtain ⟨ay, ny, cy, hYv⟩ := Y.is_slice
  obtain ⟨az, nz', cz, hZv⟩ := Z.is_slice
  have hn : ∀ d, Calls Yba.prog 29 #[.slice az nz' cz, .slice ax nx cx, .slice ay ny cy] (w.drewN d) fun e w' => ResG Z.has (w.drewN d) w' (X.num + Y.num) e := by
    intro d
    rw [← hXv, ← hYv, ← hZv]
    exact natAdd Z X Y (w.drewN d) hx.ok hy.ok gX gY hZX lx ly
  have hS : ¬ Z.has bz := Nt.not_hdr hZ hz
  have cz1 : w.cell? ⟨bz, 1, none⟩ = some (.slice az nz' cz) := by rw [← hZv]; exact hdr_abs hz
  have cx1 : w.cell? ⟨bx, 1, none⟩ = some (.slice ax nx cx) := by rw [← hXv]; exact hdr_abs hx.hdr
  have cx0 := hdr_neg hx.hdr
  have cy1 : w.cell? ⟨bY, 1, none⟩ = some (.slice ay ny cy) := by rw [← hYv]; exact hdr_abs hy.hdr
  have cy0 := hdr_neg hy.hdr
  rw [hZv] at hz
  have HN := hid hn
  have HS := hid hS
  clear hn hS hXv hYv hZv
  go_enter Yba.func12, Yba.ntmps12
  go_wp2_with fail
  go_quiet (fail)
  go_wp2
  go_region_with (go_at_call 29; refine (HN.out _).mono ?_; rintro e w1 ⟨R, rfl, q1, q2, q3, q4, q5⟩; obtain ⟨k1, k2, k3, k4, HR⟩ := add_after hz HS.out ⟨q1, q2, q3, q4⟩; obtain ⟨a2, n2, c2, hRv⟩ := R.is_slice; rw [hRv]; have HRV := hid hRv; have Q5 := hid q5; clear hRv q1 q2 q3 q4 q5)
  all_goals
    by_cases h0 : 0 < n2
    · go_wp2
      go_ret
      obtain ⟨r1, r2, r3, r4, r5⟩ := HR.out
      obtain ⟨s1, s2⟩ := stored (neg := false) r1 r2 r4 HRV.out
      exact ⟨R, rfl, s1, r3, s2, r5, fun h => Q5.out (by rw [← r3]; exact h)⟩
    · obtain rfl : n2 = 0 := by omega
      go_wp2
      go_ret
      obtain ⟨r1, r2, r3, r4, r5⟩ := HR.out
      obtain ⟨s1, s2⟩ := stored (neg := false) r1 r2 r4 HRV.out
      exact ⟨R, rfl, s1, r3, s2, r5, fun h => Q5.out (by rw [← r3]; exact h)⟩
end Go.Proofs.Ybulkanxo
