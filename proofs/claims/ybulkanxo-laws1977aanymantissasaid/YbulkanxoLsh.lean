/-
  math/big.nat.lsh.
-/
import Derived.Test.YbulkanxoLshVU
namespace Go.Proofs.Ybulkanxo
open Go.RowKit
set_option linter.unusedVariables false

theorem zero51 (w : World) : (zeroValue 51).run Yba.prog w = .ok (.int .u64 0) w := by kernel_rfl
/-- clear(z[0:q]) where the q words are 0 already. -/
theorem clear_zeros (ty : TypeId) (w : World) (gz q kz : Nat) (cs : List Nat) (hz : w.heap[gz]? = some (row (List.replicate q 0 ++ cs))) :
    (Builtin.clear_ #[35] ty #[.slice (some ⟨gz, 0, none⟩) q kz]).run Yba.prog w = .ok (.tuple #[]) w := by
  cases q with
  | zero => simp [Builtin.clear_, run_underlying Yba.underlying35]
  | succ q =>
    have hz' : w.heap[gz]? = some (.cells ((List.replicate (q + 1) 0 ++ cs).map wv).toArray 51 (0, 0)) := hz
    have hst := run_storeCells_at Yba.prog gz 0 51 (List.replicate (q + 1) (Value.int .u64 0)) 0 ((List.replicate (q + 1) 0 ++ cs).map wv).toArray w hz' (by simp) (by intro v hv; rw [List.eq_of_mem_replicate hv]; rfl)
    have e : (((List.replicate (q + 1) 0 ++ cs).map wv).toArray.toList.take (0 + 0) ++ List.replicate (q + 1) (Value.int .u64 0) ++ ((List.replicate (q + 1) 0 ++ cs).map wv).toArray.toList.drop (0 + 0 + (List.replicate (q + 1) (Value.int .u64 0)).length)).toArray = ((List.replicate (q + 1) 0 ++ cs).map wv).toArray := by
      simp [wv]
    rw [e, setRow_self w gz _ 51 (0, 0) hz'] at hst
    have hzc : (Builtin.zeroCells (Value.int .u64 0).cells (q + 1)).toList = List.replicate (q + 1) (Value.int .u64 0) := by
      show (madeCells #[Value.int .u64 0] ((q + 1) * 1)).toList = _
      rw [toList_madeCells_one, Nat.mul_one]
    simp [Builtin.clear_, run_underlying Yba.underlying35, hzc, hst]

/-- What lsh leaves in its new row: the number shifted. -/
theorem lsh_val {q r m s : Nat} (hs : s = 64 * q + r) {Z : List Nat} {c v : Nat} (hl : Z.length = m) (h : val Z + B ^ m * c = v * 2 ^ r) : val (List.replicate q 0 ++ (Z ++ [c])) = v * 2 ^ s := by
  rw [val_append, val_replicate, List.length_replicate, val_snoc, hl, h, hs, Nat.pow_add, Nat.pow_mul]
  show _ = v * (B ^ q * 2 ^ r)
  rw [Nat.zero_add, ← Nat.mul_assoc, ← Nat.mul_assoc, Nat.mul_comm v]

/-- z's row behind lshVU, behind the store of the word at the top. -/
theorem top_new {Z : List Nat} {q m c : Nat} (h : Z.length = m) : (top (List.replicate (m + q + 5) 0) Z q 0 m).set (m + q) c = List.replicate q 0 ++ ((Z ++ [c]) ++ List.replicate 4 0) := by
  unfold top
  rw [Nat.add_zero, List.drop_zero, List.take_replicate, Nat.min_eq_left (by omega), List.drop_replicate, ← List.append_assoc, set_at (by simp [h]; omega) (by intro e; have := congrArg List.length e; simp at this; omega), List.drop_replicate]
  have : m + q + 5 - (q + m) - 1 = 4 := by omega
  rw [this]
  simp

theorem make_more' (a : Option Addr) (k cap N : Nat) (hcap : cap < N + 1) (h1 : 1 ≤ N) (hn : N ≤ 990) (w : World) :
    Calls Yba.prog 43 #[.slice a k cap, .int .i64 ((N : Int) + 1)] w fun e w' => .returned (.slice (some ⟨w.heap.size, 0, none⟩) (N + 1) (N + 5)) = e ∧ w.alloc (row (List.replicate (N + 5) 0)) = w' := by
  have := make_more a k cap (N + 1) hcap (by omega) (by omega) w
  have e : ((N + 1 : Nat) : Int) = (N : Int) + 1 := by omega
  rw [e] at this
  exact this.mono fun _ _ ⟨a, b⟩ => ⟨a.symm, b.symm⟩

set_option maxHeartbeats 1000000 in
theorem lsh_part (a : Option Addr) (l cap gx m kx q r t s N : Nat) (cx : List Nat) (w : World) (hx : w.heap[gx]? = some (row cx)) (lx : m ≤ cx.length) (bx : Words cx) (hm : 1 ≤ m) (hb : N ≤ 900) (hcap : cap < N + 1)
    (hN : Hid (N = m + q)) (hr : 1 ≤ r) (ht : 1 ≤ t) (hrt : Hid (r + t = 64)) (hq : (s : Int) / 64 = (q : Int)) (hrr : (s : Int) % 64 = (r : Int)) (hs : Hid (s = 64 * q + r)) (hpos : 0 < s) (hsb : (s : Int) < 1000000)
    (n1 : (m : Int) + (q : Int) = (N : Int)) (n2 : (N : Int) - (m : Int) = (q : Int)) (n3 : N - q = m) (n4 : q ≤ N) (f1 : Hid (bits BinOp.and IntKind.u64 (r : Int) 63 = (r : Int))) (f2 : Hid ((64 : Int) - (r : Int) = (t : Int))) (f3 : Hid (bits BinOp.and IntKind.u64 (t : Int) 63 = (t : Int))) :
    Calls Yba.prog 28 #[.slice a l cap, .slice (some ⟨gx, 0, none⟩) m kx, .int .u64 (s : Int)] w fun e w' => NatOut (w.alloc (row (List.replicate (N + 5) 0))) w' w.heap.size (N + 5) (val (cx.take m) * 2 ^ s) e := by
  have hb1 : ((m : Int) == 0) = false := by simp; omega
  have hb2 : ((s : Int) == 0) = false := by simp; omega
  have hb3 : ((r : Int) == 0) = false := by simp; omega
  have hmN : 1 ≤ N := by have := hN.out; omega
  have hmk := make_more' a l cap N hcap hmN (by omega) w
  have HM := hid hmk
  clear hmk
  have hen := lshVU_enters
  have hz : (w.alloc (row (List.replicate (N + 5) 0))).heap[w.heap.size]? = some (row (List.replicate (N + 5) 0)) := heap_new _ _
  have HZ := hid hz
  have hx1 : (w.alloc (row (List.replicate (N + 5) 0))).heap[gx]? = some (row cx) := row_alloc hx
  have hne : Hid (w.heap.size ≠ gx) := hid (fun e => by have := lt_of_block hx; omega)
  have HX := hid hx1
  obtain ⟨W1, hW1⟩ : ∃ W1, W1 = w.alloc (row (List.replicate (N + 5) 0)) := ⟨_, rfl⟩
  rw [← hW1] at HZ HX HM ⊢
  obtain ⟨gz, hgz⟩ : ∃ g, g = w.heap.size := ⟨_, rfl⟩
  rw [← hgz] at HZ HM hne ⊢
  clear hz hx1 hW1 hgz
  have j1 : ¬ N + 5 = q := by omega
  have j2 : (q : Int) ≤ (N : Int) := by omega
  have N3 := hid n3
  clear n3
  go_enter Yba.func28, Yba.ntmps28
  go_wp2_with (go_at_call 43; refine HM.out.mono ?_; rintro e w' ⟨rfl, rfl⟩)
  rw [N3.out]
  refine (lshVU_any gz gx q m _ _ r t (List.replicate (N + 5) 0) cx _ HZ.out HX.out hne (by simp; omega) lx hm (by omega) bx hr ht hrt f1.out f2.out f3.out).mono ?_
  rintro e w1 ⟨rfl, hr1, hf1⟩
  have LZ := hid (zl_length cx r t m)
  have HR := hid hr1
  clear hr1
  obtain ⟨c, hc⟩ : ∃ c, c = low cx t m := ⟨_, rfl⟩
  rw [← hc]
  have HC := hid hc
  clear hc
  have fz : w1.frozen? ⟨gz, N, none⟩ = false := row_free HR.out
  obtain ⟨z0, cz0⟩ : ∃ z : Nat, w1.cell? ⟨gz, N, none⟩ = some (.int .u64 (z : Int)) := ⟨_, row_cell HR.out (by rw [top_length LZ.out (by omega) (by simp; omega)]; simp)⟩
  have hs2 : (w1.setCell ⟨gz, N, none⟩ (.int .u64 (c : Int))).heap[gz]? = some (row (List.replicate q 0 ++ ((zl cx r t m ++ [c]) ++ List.replicate 4 0))) := by
    rw [row_set HR.out, hN.out, top_new LZ.out]
  have hcl := clear_zeros 0 (w1.setCell ⟨gz, N, none⟩ (.int .u64 (c : Int))) gz q (N + 5) _ hs2
  have HS := hid hs2
  clear hs2
  go_wp2_with (go_at_call 48; refine (norm_any gz (N + 1) (N + 5) _ _ HS.out (by have := LZ.out; have := hN.out; simp; omega) (by omega) (by omega)).mono ?_; rintro e w2 ⟨k, rfl, hk, hv2, hnm, rfl⟩)
  go_ret
  have hlz := LZ.out
  have hn := hN.out
  have hcB : c < B := by
    rw [HC.out]
    exact Nat.lt_of_lt_of_le (low_lt hrt.out bx m) (by have := hrt.out; have h2 : (2 : Nat) ^ r ≤ 2 ^ 64 := Nat.pow_le_pow_right (by decide) (by omega); exact h2)
  refine ⟨_, k, rfl, HS.out, by simp [hlz]; omega, (Words.replicate q).append (((zl_words hrt.out bx m).snoc hcB).append (Words.replicate 4)), by omega, hnm, ?_, hf1.setCell (ad := ⟨gz, N, none⟩) (fun _ => rfl) _⟩
  rw [hv2, ← List.append_assoc, List.take_append_of_le_length (by simp [hlz]; omega), List.take_of_length_le (by simp [hlz]; omega)]
  exact lsh_val hs.out hlz (by rw [HC.out]; exact zl_val hrt.out cx m lx)

/-- z's row behind the copy, behind the store of the 0 at the top. -/
theorem whole_new {X : List Nat} {q m : Nat} (h : X.length = m) : ((List.replicate (m + q + 5) 0).take q ++ X ++ (List.replicate (m + q + 5) 0).drop (q + X.length)).set (m + q) 0 = List.replicate q 0 ++ ((X ++ [0]) ++ List.replicate 4 0) := by
  have := top_new (Z := X) (q := q) (c := 0) h
  unfold top at this
  rw [Nat.add_zero, List.drop_zero] at this
  rw [← this, h, List.append_assoc]

set_option maxHeartbeats 1000000 in
theorem lsh_whole (a : Option Addr) (l cap gx m kx q s N : Nat) (cx : List Nat) (w : World) (hx : w.heap[gx]? = some (row cx)) (lx : m ≤ cx.length) (bx : Words cx) (hm : 1 ≤ m) (hb : N ≤ 900) (hcap : cap < N + 1)
    (hN : Hid (N = m + q)) (hq : (s : Int) / 64 = (q : Int)) (hrr : (s : Int) % 64 = 0) (hs : Hid (s = 64 * q)) (hpos : 0 < s) (hsb : (s : Int) < 1000000)
    (n1 : (m : Int) + (q : Int) = (N : Int)) (n2 : (N : Int) - (m : Int) = (q : Int)) (n3 : Hid (N - q = m)) (n4 : q ≤ N) :
    Calls Yba.prog 28 #[.slice a l cap, .slice (some ⟨gx, 0, none⟩) m kx, .int .u64 (s : Int)] w fun e w' => NatOut (w.alloc (row (List.replicate (N + 5) 0))) w' w.heap.size (N + 5) (val (cx.take m) * 2 ^ s) e := by
  have hb1 : ((m : Int) == 0) = false := by simp; omega
  have hb2 : ((s : Int) == 0) = false := by simp; omega
  have hmN : 1 ≤ N := by have := hN.out; omega
  have hmk := make_more' a l cap N hcap hmN (by omega) w
  have HM := hid hmk
  clear hmk
  have hz : (w.alloc (row (List.replicate (N + 5) 0))).heap[w.heap.size]? = some (row (List.replicate (N + 5) 0)) := heap_new _ _
  have HZ := hid hz
  have hx1 : (w.alloc (row (List.replicate (N + 5) 0))).heap[gx]? = some (row cx) := row_alloc hx
  have HX := hid hx1
  obtain ⟨W1, hW1⟩ : ∃ W1, W1 = w.alloc (row (List.replicate (N + 5) 0)) := ⟨_, rfl⟩
  rw [← hW1] at HZ HX HM ⊢
  obtain ⟨gz, hgz⟩ : ∃ g, g = w.heap.size := ⟨_, rfl⟩
  rw [← hgz] at HZ HM ⊢
  clear hz hx1 hW1 hgz
  have ltk : (cx.take m).length = m := by simp; omega
  have hcp := copy_words 35 35 3 Yba.underlying35 W1 gz q (N - q) (N + 5 - q) gx 0 m kx (List.replicate (N + 5) 0) (cx.take m) HZ.out (by rw [ltk, n3.out]; exact (Nat.min_self m).symm) (src_cells HX.out lx) (by rw [ltk]; simp; omega)
  obtain ⟨L, hL⟩ : ∃ L, L = (List.replicate (N + 5) 0).take q ++ cx.take m ++ (List.replicate (N + 5) 0).drop (q + (cx.take m).length) := ⟨_, rfl⟩
  rw [← hL, ltk] at hcp
  have hsetL : L.set N 0 = List.replicate q 0 ++ ((cx.take m ++ [0]) ++ List.replicate 4 0) := by rw [hL, hN.out]; exact whole_new ltk
  have lL : N < L.length := by rw [hL, ltk]; simp [ltk]; omega
  have HR : Hid ((putW W1 gz L).heap[gz]? = some (row L)) := hid (putW_at HZ.out)
  have fz : (putW W1 gz L).frozen? ⟨gz, N, none⟩ = false := row_free HR.out
  obtain ⟨z0, cz0⟩ : ∃ z : Nat, (putW W1 gz L).cell? ⟨gz, N, none⟩ = some (.int .u64 (z : Int)) := ⟨_, row_cell HR.out lL⟩
  have hs2 : ((putW W1 gz L).setCell ⟨gz, N, none⟩ (.int .u64 0)).heap[gz]? = some (row (List.replicate q 0 ++ ((cx.take m ++ [0]) ++ List.replicate 4 0))) := by
    have := row_set (d := 0) (i := N) HR.out
    rw [hsetL] at this
    exact this
  have hcl := clear_zeros 0 ((putW W1 gz L).setCell ⟨gz, N, none⟩ (.int .u64 0)) gz q (N + 5) _ hs2
  have HS := hid hs2
  have LT := hid ltk
  clear hs2 hL hsetL lL ltk
  have j1 : ¬ N + 5 = q := by omega
  have j2 : (q : Int) ≤ (N : Int) := by omega
  go_enter Yba.func28, Yba.ntmps28
  go_wp2_with (first | (go_at_call 43; refine HM.out.mono ?_; rintro e w' ⟨rfl, rfl⟩) | (go_at_call 48; refine (norm_any gz (N + 1) (N + 5) _ _ HS.out (by have := LT.out; have := hN.out; simp; omega) (by omega) (by omega)).mono ?_; rintro e w2 ⟨k, rfl, hk, hv2, hnm, rfl⟩))
  go_ret
  have hlz := LT.out
  have hn := hN.out
  refine ⟨_, k, rfl, HS.out, by simp [hlz]; omega, (Words.replicate q).append (((bx.take m).snoc B_pos).append (Words.replicate 4)), by omega, hnm, ?_, (((Fr.refl (· = gz) W1).putW (fun _ => rfl) L).setCell (ad := ⟨gz, N, none⟩) (fun _ => rfl) _)⟩
  rw [hv2, ← List.append_assoc, List.take_append_of_le_length (by simp [hlz]; omega), List.take_of_length_le (by simp [hlz]; omega)]
  exact lsh_val (r := 0) (by rw [hs.out]; rfl) hlz (by simp)
end Go.Proofs.Ybulkanxo
