/-
  MEMORY OF THE SEAT: frames. Of no program.
-/
import Derived.WalkKit
import Derived.WalkSpells
import Derived.WalkLawsBesides
namespace Go.Proofs.Ybulkanyc
open Go.RowKit

theorem hid {p : Prop} (h : p) : Hid p := h

/-- All blocks but those in S are as they were; the streams too. -/
structure Fr (S : Nat → Prop) (w w' : World) : Prop where
  os : w'.os = w.os
  tape : w'.tape = w.tape
  output : w'.output = w.output
  size : w.heap.size ≤ w'.heap.size
  block : ∀ k, k < w.heap.size → ¬ S k → w'.heap[k]? = w.heap[k]?

theorem Fr.refl (S : Nat → Prop) (w : World) : Fr S w w := ⟨rfl, rfl, rfl, Nat.le_refl _, fun _ _ _ => rfl⟩
theorem Fr.trans {S : Nat → Prop} {a b c : World} (h : Fr S a b) (k : Fr S b c) : Fr S a c :=
  ⟨k.os.trans h.os, k.tape.trans h.tape, k.output.trans h.output, Nat.le_trans h.size k.size, fun i hi hs => (k.block i (Nat.lt_of_lt_of_le hi h.size) hs).trans (h.block i hi hs)⟩
/-- The second step may turn new blocks too. -/
theorem Fr.trans' {S T : Nat → Prop} {a b c : World} (h : Fr S a b) (k : Fr T b c) (hT : ∀ i, i < a.heap.size → T i → S i) : Fr S a c :=
  ⟨k.os.trans h.os, k.tape.trans h.tape, k.output.trans h.output, Nat.le_trans h.size k.size, fun i hi hs => (k.block i (Nat.lt_of_lt_of_le hi h.size) (fun t => hs (hT i hi t))).trans (h.block i hi hs)⟩
theorem Fr.mono {S T : Nat → Prop} {w w' : World} (h : Fr S w w') (hS : ∀ i, i < w.heap.size → S i → T i) : Fr T w w' :=
  ⟨h.os, h.tape, h.output, h.size, fun k hk ht => h.block k hk (fun s => ht (hS k hk s))⟩
theorem Fr.drew {S : Nat → Prop} {a w : World} (h : Fr S a w) : Fr S a w.drew := ⟨h.os, h.tape, h.output, h.size, h.block⟩
theorem Fr.drewN {S : Nat → Prop} {a w : World} (h : Fr S a w) (n : Nat) : Fr S a (w.drewN n) := ⟨h.os, h.tape, h.output, h.size, h.block⟩
theorem Fr.alloc {S : Nat → Prop} {a w : World} (h : Fr S a w) (o : Obj) : Fr S a (w.alloc o) :=
  ⟨h.os, h.tape, h.output, by have := h.size; simp; omega, fun k hk hs => (Below.heap_alloc w o k (Nat.lt_of_lt_of_le hk h.size)).trans (h.block k hk hs)⟩
theorem Fr.setCell {S : Nat → Prop} {a w : World} (h : Fr S a w) {ad : Addr} (hb : ad.block < a.heap.size → S ad.block) (v : Value) : Fr S a (w.setCell ad v) :=
  ⟨h.os, h.tape, h.output, by have := h.size; simp [World.setCell]; omega, fun k hk hs => (heap_setCell_other w ad k v (fun e => hs (by rw [e] at hk ⊢; exact hb hk))).trans (h.block k hk hs)⟩
theorem Fr.below {S : Nat → Prop} {w w' : World} {B : Nat} (h : Fr S w w') (hB : B ≤ w.heap.size) (hS : ∀ k, S k → B ≤ k) : Below B w w' :=
  ⟨h.os, h.tape, h.output, h.size, fun k hk => h.block k (Nat.lt_of_lt_of_le hk hB) (fun s => absurd (hS k s) (Nat.not_le.2 hk))⟩
theorem Fr.of_below {w w' : World} {B : Nat} (h : Below B w w') : Fr (fun k => B ≤ k) w w' :=
  ⟨h.os, h.tape, h.output, h.size, fun k _ hs => h.block k (by omega)⟩

theorem row_other {w : World} {a : Addr} {v : Value} {k : Nat} {o : Obj} (h : w.heap[k]? = some o) (hk : k ≠ a.block) : (w.setCell a v).heap[k]? = some o := by
  rw [heap_setCell_other w a k v hk, h]
theorem row_alloc {w : World} {o o' : Obj} {k : Nat} (h : w.heap[k]? = some o) : (w.alloc o').heap[k]? = some o := by
  rw [Below.heap_alloc w o' k (lt_of_block h), h]
end Go.Proofs.Ybulkanyc
