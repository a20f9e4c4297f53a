/-
  copy and clear on rows of words; nat.set, setWord, setUint64.
-/
import Derived.Test.YbulkanxoNorm
import Derived.Laws.CopyOwn
namespace Go.Proofs.Ybulkanxo
open Go.RowKit
set_option linter.unusedVariables false

/-- The world with block g's words laid anew. -/
def putW (w : World) (g : Nat) (cs : List Nat) : World := w.setRow g (cs.map wv).toArray
theorem putW_at {w : World} {g : Nat} {cs cs' : List Nat} (h : w.heap[g]? = some (row cs)) : (putW w g cs').heap[g]? = some (row cs') := by
  unfold putW World.setRow row at *
  simp [Array.getElem?_modify, h]
theorem putW_other {w : World} {g k : Nat} {cs : List Nat} (h : k ≠ g) : (putW w g cs).heap[k]? = w.heap[k]? := by
  unfold putW
  exact setRow_other w g k _ h
theorem putW_size {w : World} {g : Nat} {cs : List Nat} : (putW w g cs).heap.size = w.heap.size := by simp [putW]
theorem Fr.putW {S : Nat → Prop} {a w : World} (h : Fr S a w) {g : Nat} (hb : g < a.heap.size → S g) (cs : List Nat) : Fr S a (putW w g cs) :=
  ⟨h.os, h.tape, h.output, by rw [putW_size]; exact h.size, fun k hk hs => (putW_other (fun e => hs (by rw [e] at hk ⊢; exact hb hk))).trans (h.block k hk hs)⟩
theorem putW_self {w : World} {g : Nat} {cs : List Nat} (h : w.heap[g]? = some (row cs)) : putW w g cs = w := setRow_self w g _ 51 (0, 0) h

theorem size51 : (Yba.prog.info? 51).map (·.size) = some 1 := by kernel_rfl
theorem wv_one (d : Nat) : (wv d).oneCell' = true := rfl
theorem add_off (g o j : Nat) : (⟨g, o, none⟩ : Addr).add j = ⟨g, o + j, none⟩ := by unfold Addr.add; split <;> simp_all

/-- copy(dst, src), something to copy. -/
theorem copy_words (dT sT ty : TypeId) (hu : Yba.prog.underlying dT = some (.slice 51)) (w : World) (gz o dLen dCap gx ox sLen sCap : Nat) (cz xs : List Nat) (hz : w.heap[gz]? = some (row cz))
    (hn : xs.length = Nat.min sLen dLen) (hsrc : ∀ j, j < xs.length → w.cell? ⟨gx, ox + j, none⟩ = some (.int .u64 (xs.getD j 0 : Nat))) (hfit : o + xs.length ≤ cz.length) :
    (Builtin.copy_ #[dT, sT] ty #[.slice (some ⟨gz, o, none⟩) dLen dCap, .slice (some ⟨gx, ox, none⟩) sLen sCap]).run Yba.prog w =
      .ok (goInt xs.length) (putW w gz (cz.take o ++ xs ++ cz.drop (o + xs.length))) := by
  have := run_copy_row (P := Yba.prog) w dT sT ty 51 gz o dLen dCap ⟨gx, ox, none⟩ sLen sCap (cz.map wv).toArray 51 (xs.map wv) hu size51 hz (by simpa using hn)
    (fun j v hj => by
      rw [add_off]
      simp only [List.getElem?_map, Option.map_eq_some_iff] at hj
      obtain ⟨d, hd, rfl⟩ := hj
      have hlt : j < xs.length := (List.getElem?_eq_some_iff.1 hd).1
      rw [hsrc j hlt]
      simp [wv, hd])
    (by simpa using hfit) (by intro v hv; simp only [List.mem_map] at hv; obtain ⟨d, _, rfl⟩ := hv; exact wv_one d)
  rw [this]
  simp [putW]
/-- copy(dst, src), nothing to copy. -/
theorem copy_nothing (dT sT ty : TypeId) (hu : Yba.prog.underlying dT = some (.slice 51)) (w : World) (d a : Option Addr) (dLen dCap sLen sCap : Nat) (hn : Nat.min sLen dLen = 0) :
    (Builtin.copy_ #[dT, sT] ty #[.slice d dLen dCap, .slice a sLen sCap]).run Yba.prog w = .ok (goInt 0) w :=
  run_copy_none (P := Yba.prog) w dT sT ty 51 d a dLen dCap sLen sCap hu size51 hn
end Go.Proofs.Ybulkanxo
