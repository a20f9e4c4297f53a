/-
  LawS1978BSchedule: the law's start; small laws.
-/
import Derived.Test.YbulkanycSched17
namespace Go.Proofs.Ybulkanyc
open Go.RowKit
set_option linter.unusedVariables false

theorem make_acts (n : Nat) (hn : n ≤ 512) (w : World) : (Instr.makeSlice 101 (.int .i64 (n : Int)) (.int .i64 (n : Int))).run Yba.prog w = .ok (.slice (some ⟨w.heap.size, 0, none⟩) n n) (w.alloc (.cells (Array.replicate n (.pointer none)) 102)) := by
  obtain ⟨i0, hi, hz0, hz1, hz2⟩ := info_parts info102
  have := run_make (P := Yba.prog) (w := w) 101 102 i0 (.pointer none) Yba.underlying101 hi hz0 .i64 .i64 (n : Int) (n : Int) (by omega) (by omega) (by rw [hz2]; omega) (by omega)
  rw [this, hz1, Int.toNat_natCast, made_one _ _ rfl]
theorem make_bools (n : Nat) (hn : n ≤ 512) (w : World) : (Instr.makeSlice 79 (.int .i64 (n : Int)) (.int .i64 (n : Int))).run Yba.prog w = .ok (.slice (some ⟨w.heap.size, 0, none⟩) n n) (w.alloc (.cells (Array.replicate n (.bool false)) 4)) := by
  obtain ⟨i0, hi, hz0, hz1, hz2⟩ := info_parts info4
  have := run_make (P := Yba.prog) (w := w) 79 4 i0 (.bool false) Yba.underlying79 hi hz0 .i64 .i64 (n : Int) (n : Int) (by omega) (by omega) (by rw [hz2]; omega) (by omega)
  rw [this, hz1, Int.toNat_natCast, made_one _ _ rfl]

theorem tmod7 (b : Int) : -6 ≤ b.tmod 7 ∧ b.tmod 7 ≤ 6 := by
  have h1 := Int.tmod_lt_of_pos b (show (0 : Int) < 7 by decide)
  have h2 : -7 < b.tmod 7 := by
    have := Int.tmod_lt_of_pos (-b) (show (0 : Int) < 7 by decide)
    rw [Int.neg_tmod] at this
    omega
  omega
theorem not_in_take {xs : List Nat} (h : xs.Nodup) {j k : Nat} (hk : xs[j]? = some k) : k ∉ xs.take j := by
  intro hm
  have e : xs = xs.take j ++ xs.drop j := (List.take_append_drop j xs).symm
  have hd : k ∈ xs.drop j := by
    have hj := (List.getElem?_eq_some_iff.1 hk).1
    have : (xs.drop j)[0]? = some k := by rw [List.getElem?_drop]; simpa using hk
    exact List.mem_of_getElem? this
  rw [e] at h
  exact (List.nodup_append.1 h).2.2 k hm k hd rfl
theorem take_next {xs : List Nat} {j k : Nat} (hk : xs[j]? = some k) : xs.take (j + 1) = xs.take j ++ [k] := by
  rw [List.take_add_one, hk]; rfl
theorem Pow.and0 {sz : Nat} (h : Pow sz) : bits .and .i64 (sz : Int) ((sz : Int) - 1) = 0 := by
  rcases h with rfl | rfl | rfl | rfl <;> decide
theorem split_lane {Ls : List Lane} {l : Nat} {x : Lane} (hx : Ls[l]? = some x) : Ls = Ls.take l ++ x :: Ls.drop (l + 1) := by
  obtain ⟨hl, rfl⟩ := List.getElem?_eq_some_iff.1 hx
  rw [List.getElem_cons_drop, List.take_append_drop]
theorem take_lane {Ls : List Lane} {l : Nat} {x : Lane} (hx : Ls[l]? = some x) : Ls.take (l + 1) = Ls.take l ++ [x] := by
  rw [List.take_add_one, hx]; rfl
theorem mem_next {Ls : List Lane} {l : Nat} {x : Lane} (hx : Ls[l]? = some x) : mem (Ls.take (l + 1)) = mem (Ls.take l) ++ x.2.2 := by
  rw [take_lane hx]; simp [mem]
theorem cnt_next {Ls : List Lane} {l : Nat} {x : Lane} (hx : Ls[l]? = some x) : (Ls.take (l + 1)).countP full = (Ls.take l).countP full + (if full x then 1 else 0) := by
  rw [take_lane hx, List.countP_append]; simp [List.countP_cons]
theorem lane_fresh {q : List Nat} {Ls : List Lane} (hnd : (q ++ mem Ls).Nodup) {l : Nat} {x : Lane} (hx : Ls[l]? = some x) {j k : Nat} (hk : x.2.2[j]? = some k) : k ∉ q ++ mem (Ls.take l) ++ x.2.2.take j := by
  have e : mem Ls = mem (Ls.take l) ++ (x.2.2 ++ mem (Ls.drop (l + 1))) := by
    have h1 : mem Ls = mem (Ls.take l ++ x :: Ls.drop (l + 1)) := congrArg mem (split_lane hx)
    rw [h1]; simp [mem]
  rw [e, ← List.append_assoc, List.nodup_append] at hnd
  obtain ⟨_, h2, h3⟩ := hnd
  have hkm : k ∈ x.2.2 := List.mem_of_getElem? hk
  intro hm
  rcases List.mem_append.1 hm with hm | hm
  · exact h3 k hm k (List.mem_append_left _ hkm) rfl
  · exact not_in_take (List.nodup_append.1 h2).1 hk hm
theorem wrap_back (since s a : Int) (h1 : -6 ≤ s) (h2 : s ≤ 6) (ha : IntKind.i64.wrap (since + s) = a) : IntKind.i64.wrap (a - since) = s := by
  rw [← ha, IntKind.wrap_i64, IntKind.wrap_i64]
  omega
def prevV (m : List Nat) (j : Nat) : Int := if j = 0 then 0 else (m.getD (j - 1) 0 : Int) + 1
theorem prevV_next (m : List Nat) (j : Nat) : prevV m (j + 1) = (m.getD j 0 : Int) + 1 := by simp [prevV]
theorem prevV_lt {m : List Nat} (h : m.Pairwise (· < ·)) {j : Nat} (h0 : 0 < j) (hj : j < m.length) : prevV m j < (m.getD j 0 : Int) + 1 := by
  unfold prevV
  rw [if_neg (by omega)]
  have := List.pairwise_iff_getElem.1 h (j - 1) j (by omega) hj (by omega)
  have e1 : m.getD j 0 = m[j] := by simp [List.getD, hj]
  have e2 : m.getD (j - 1) 0 = m[j - 1] := by
    have : j - 1 < m.length := by omega
    simp [List.getD, this]
  rw [e1, e2]
  omega
theorem ring_cell {A : Nat → Int} {ab : Nat → Nat} {R : Nat} {wq : World} {x : Lane} {g sz : Nat} (h : RingAt A ab R wq x.2.1 x.2.2) (h1 : x.2.1 = .slice (some ⟨g, 0, none⟩) sz sz) (j c : Nat) (hj : j < x.2.2.length) (hc : c < 3) : wq.cell? ⟨g, j * 3 + c, none⟩ = (ev A ab (x.2.2.getD j 0))[c]? := by
  rcases h with ⟨h2, _⟩ | ⟨g', sz', cur, r1, r2, r3, r4, r5, r6, r7, r8⟩
  · rw [h1] at h2; simp at h2
  · rw [h1] at r1
    simp at r1
    obtain ⟨rfl, rfl⟩ := r1
    rw [cell_of_row _ _ _ _ _ _ r3]
    have e : cur[j * 3 + c]? = (cur.toList.take (x.2.2.length * 3))[j * 3 + c]? := by
      rw [List.getElem?_take, if_pos (by omega)]; simp
    rw [e, r8, evs_get A ab x.2.2 j c hj hc]
theorem runOk0 (since : Int) (lv : Value) : RunOk #[.int .u64 0, .int .i64 0, .pointer none, .int .i64 since, .int .u64 0, .slice none 0 0, .int .u64 0, .int .i64 0, .pointer none, lv, .slice none 0 0, .int .i64 0, .int .i64 0, .int .i64 0, .int .i64 0, .int .i64 0, .int .i64 0, .int .i64 0, .int .i64 0, .int .i64 0, .slice none 0 0, .slice none 0 0, .map none, .map none, .int .i64 0, .nilIface]
    since (.slice none 0 0) 0 lv (.slice none 0 0) := by
  refine ⟨rfl, rfl, rfl, rfl, rfl, rfl, ?_, ⟨0, by decide, rfl⟩⟩
  intro j hj
  have : j = 0 ∨ j = 1 ∨ j = 2 ∨ j = 3 ∨ j = 4 ∨ j = 5 ∨ j = 6 ∨ j = 7 := by omega
  rcases this with rfl | rfl | rfl | rfl | rfl | rfl | rfl | rfl <;> exact ⟨0, rfl⟩
theorem L1.start {A : Nat → Int} {sp : Nat → Int} {R : Nat} {since : Int} {Ab F n : Nat} {w wq : World} {rc : Array Value} {lv : Value} {Ls : List Lane} (hr : wq.heap[R]? = some (.cells rc 96)) (ok : RunOk rc since (.slice none 0 0) 0 lv (.slice none 0 0)) (lown : wq.ownsRow R 100 4 lv Ls.length (lanesRow Ls)) (hnil : ∀ x ∈ Ls, x.2 = (.slice none 0 0, [])) (h8 : Ls.length ≤ 8)
    (hA : wq.heap[Ab]? = some (.cells (Array.replicate n (.pointer none)) 102)) (hF : wq.heap[F]? = some (.cells #[.int .i64 0] 3)) (fr : Fr (fun j => R ≤ j) w wq) : L1 A sp R since Ab F n w wq 0 := by
  refine ⟨⟨fun _ => 0, rc, .slice none 0 0, lv, .slice none 0 0, [], Ls, [], ⟨hr, ok, World.ownsRow_nil _ _ _ _, lown, World.ownsRow_nil _ _ _ _, ?_, ?_, ?_, by rw [actRow_zero]; exact hA, hF, by simp [Value.ownBlock]⟩, Inv.zero A sp Ls (fun x hx => by rw [hnil x hx]) h8⟩, fr⟩
  · intro l x hx
    rw [hnil x (List.mem_of_getElem? hx)]
    exact .inl ⟨rfl, rfl⟩
  · intro l x g hx hg
    simp [Value.ownBlock]
  · intro l l' x x' g hx hx' hne hg
    rw [hnil x (List.mem_of_getElem? hx)] at hg
    simp [Value.ownBlock] at hg

end Go.Proofs.Ybulkanyc
