/-
  math/big.lshVU_g: the words of a number shifted left by less than a word, into another row.
-/
import Derived.Test.YbulkanxoSub
namespace Go.Proofs.Ybulkanxo
open Go.RowKit
set_option linter.unusedVariables false

/-- What comes in from the word below. -/
def low (xs : List Nat) (t : Nat) : Nat → Nat
  | 0 => 0
  | j + 1 => xs.getD j 0 / 2 ^ t
/-- One word of x << s (s + t = 64). -/
def zdig (xs : List Nat) (s t j : Nat) : Nat := xs.getD j 0 * 2 ^ s % B + low xs t j
def zl (xs : List Nat) (s t n : Nat) : List Nat := (List.range n).map (zdig xs s t)
theorem zl_length (xs : List Nat) (s t n : Nat) : (zl xs s t n).length = n := by simp [zl]
theorem zl_succ (xs : List Nat) (s t n : Nat) : zl xs s t (n + 1) = zl xs s t n ++ [zdig xs s t n] := by simp [zl, List.range_succ]

theorem B_pow {s t : Nat} (h : s + t = 64) : 2 ^ s * 2 ^ t = B := by rw [← Nat.pow_add, h]; rfl
theorem shl_div {s t : Nat} (h : s + t = 64) (x : Nat) : x * 2 ^ s / B = x / 2 ^ t := by
  rw [← B_pow h, Nat.mul_comm x, Nat.mul_div_mul_left _ _ (Nat.two_pow_pos s)]
theorem shl_parts {s t : Nat} (h : s + t = 64) (x : Nat) : x * 2 ^ s % B + B * (x / 2 ^ t) = x * 2 ^ s := by
  rw [← shl_div h]; exact Nat.mod_add_div _ _
theorem shl_mod_dvd {s t : Nat} (h : s + t = 64) (x : Nat) : x * 2 ^ s % B % 2 ^ s = 0 := by
  have : 2 ^ s ∣ B := ⟨2 ^ t, (B_pow h).symm⟩
  rw [Nat.mod_mod_of_dvd _ this, Nat.mul_mod_left]
theorem shr_lt {s t : Nat} (h : s + t = 64) (x : Nat) (hx : x < B) : x / 2 ^ t < 2 ^ s := by
  rw [← B_pow h] at hx
  exact Nat.div_lt_of_lt_mul (by rw [Nat.mul_comm]; exact hx)
theorem low_lt {s t : Nat} (h : s + t = 64) {xs : List Nat} (hx : Words xs) (j : Nat) : low xs t j < 2 ^ s := by
  cases j with
  | zero => exact Nat.two_pow_pos s
  | succ j => exact shr_lt h _ (hx.getD j)
theorem zdig_or {s t : Nat} (h : s + t = 64) {xs : List Nat} (hx : Words xs) (j : Nat) : (xs.getD j 0 * 2 ^ s % B) ||| low xs t j = zdig xs s t j :=
  nat_join s _ _ (shl_mod_dvd h _) (low_lt h hx j)
theorem zdig_lt {s t : Nat} (h : s + t = 64) {xs : List Nat} (hx : Words xs) (j : Nat) : zdig xs s t j < B := by
  rw [← zdig_or h hx]
  have a : xs.getD j 0 * 2 ^ s % B < 2 ^ 64 := Nat.mod_lt _ B_pos
  have b : low xs t j < 2 ^ 64 := Nat.lt_of_lt_of_le (low_lt h hx j) (Nat.pow_le_pow_right (by decide) (by omega))
  exact Nat.or_lt_two_pow (n := 64) a b
theorem zl_words {s t : Nat} (h : s + t = 64) {xs : List Nat} (hx : Words xs) (n : Nat) : Words (zl xs s t n) := by
  intro d hd
  simp only [zl, List.mem_map] at hd
  obtain ⟨j, _, rfl⟩ := hd
  exact zdig_lt h hx j
/-- The shifted words and what goes out at the top make up x * 2^s. -/
theorem zl_val {s t : Nat} (h : s + t = 64) (xs : List Nat) : ∀ n, n ≤ xs.length → val (zl xs s t n) + B ^ n * low xs t n = val (xs.take n) * 2 ^ s
  | 0, _ => by simp [zl, val, low]
  | n + 1, hn => by
    have ih := zl_val h xs n (by omega)
    rw [zl_succ, val_snoc, zl_length, val_take_succ xs n (by omega), Nat.add_mul, ← ih]
    show _ + B ^ (n + 1) * (xs.getD n 0 / 2 ^ t) = _
    have e := shl_parts h (xs.getD n 0)
    have e2 : B ^ n * (xs.getD n 0 * 2 ^ s % B + B * (xs.getD n 0 / 2 ^ t)) = B ^ n * (xs.getD n 0 * 2 ^ s) := by rw [e]
    rw [Nat.mul_add, ← Nat.mul_assoc, ← Nat.mul_assoc] at e2
    unfold zdig
    rw [Nat.mul_add, Nat.pow_succ]
    omega

/-- z's row while its words from i + 1 on are written. -/
def top (cz Z : List Nat) (o i k : Nat) : List Nat := cz.take (o + i) ++ (Z.drop i ++ cz.drop (o + k))
theorem top_start (cz Z : List Nat) (o k : Nat) (h : Z.length = k) : top cz Z o k k = cz := by
  unfold top; rw [List.drop_of_length_le (by omega)]; simp
theorem top_length {cz Z : List Nat} {o i k : Nat} (h : Z.length = k) (hi : i ≤ k) (hl : o + k ≤ cz.length) : (top cz Z o i k).length = cz.length := by simp [top, h]; omega
theorem top_set {cz Z : List Nat} {o i k : Nat} (h : Z.length = k) (hi : i < k) (hl : o + k ≤ cz.length) : (top cz Z o (i + 1) k).set (o + i) (Z.getD i 0) = top cz Z o i k := by
  unfold top
  have e1 : cz.take (o + (i + 1)) = cz.take (o + i) ++ [cz.getD (o + i) 0] := by rw [← Nat.add_assoc, take_succ_snoc _ _ (by omega)]
  have e2 : Z.drop i = Z.getD i 0 :: Z.drop (i + 1) := by
    rw [List.drop_eq_getElem_cons (by omega)]; congr 1; simp [List.getD, List.getElem?_eq_getElem (show i < Z.length by omega)]
  rw [e1, e2, List.append_assoc, List.set_append_right _ _ (by simp; omega)]
  have : o + i - (cz.take (o + i)).length = 0 := by simp; omega
  rw [this]
  simp
theorem zl_getD {xs : List Nat} {s t n j : Nat} (h : j < n) : (zl xs s t n).getD j 0 = zdig xs s t j := by
  simp [zl, List.getD, h]
theorem or_round {s t : Nat} (h : s + t = 64) {xs : List Nat} (hx : Words xs) (j x y : Nat) (ex : x = xs.getD (j + 1) 0) (ey : y = xs.getD j 0) :
    bits BinOp.or IntKind.u64 (IntKind.u64.wrap ((x : Int) * 2 ^ s)) ((y : Int) / 2 ^ t) = (zdig xs s t (j + 1) : Nat) := by
  have a : x * 2 ^ s % B < 18446744073709551616 := Nat.mod_lt _ B_pos
  have b : y / 2 ^ t < 18446744073709551616 := Nat.lt_of_lt_of_le (show y / 2 ^ t < 2 ^ s by rw [ey]; exact shr_lt h _ (hx.getD j)) (by
    have : (2 : Nat) ^ s ≤ 2 ^ 64 := Nat.pow_le_pow_right (by decide) (by omega)
    exact this)
  have e1 : IntKind.u64.wrap ((x : Int) * 2 ^ s) = ((x * 2 ^ s % B : Nat) : Int) := by rw [IntKind.wrap_u64]; simp [B]
  have e2 : (y : Int) / 2 ^ t = ((y / 2 ^ t : Nat) : Int) := by simp
  rw [e1, e2, u64_or_nat _ _ a b, ← zdig_or h hx, ex, ey]
  rfl
theorem shl_first {s t : Nat} (xs : List Nat) (x : Nat) (ex : x = xs.getD 0 0) : IntKind.u64.wrap ((x : Int) * 2 ^ s) = (zdig xs s t 0 : Nat) := by
  rw [IntKind.wrap_u64]; unfold zdig low; rw [← ex]; simp [B]

set_option maxHeartbeats 1000000 in
theorem lshVU_any (gz gx o k kz kx s t : Nat) (cz cx : List Nat) (w : World) (hz : w.heap[gz]? = some (row cz)) (hx : w.heap[gx]? = some (row cx)) (hne : Hid (gz ≠ gx)) (lz : o + k ≤ cz.length) (lx : k ≤ cx.length)
    (hk : 1 ≤ k) (hk2 : k ≤ 1000) (bx : Words cx) (hs : 1 ≤ s) (ht : 1 ≤ t) (hst : Hid (s + t = 64)) (e1 : bits BinOp.and IntKind.u64 (s : Int) 63 = (s : Int)) (e2 : (64 : Int) - (s : Int) = (t : Int)) (e3 : bits BinOp.and IntKind.u64 (t : Int) 63 = (t : Int)) :
    Calls Yba.prog 21 #[.slice (some ⟨gz, o, none⟩) k kz, .slice (some ⟨gx, 0, none⟩) k kx, .int .u64 (s : Int)] w fun e w' =>
      e = .returned (.int .u64 (low cx t k : Nat)) ∧ w'.heap[gz]? = some (row (top cz (zl cx s t k) o 0 k)) ∧ Fr (· = gz) w w' := by
  have hb1 : ((k : Int) == 0) = false := by simp; omega
  have hb2 : ((s : Int) == 0) = false := by simp; omega
  obtain ⟨j, rfl⟩ : ∃ j, k = j + 1 := ⟨k - 1, by omega⟩
  have hlt : j < j + 1 := by omega
  have cxj : ∀ i, i < j + 1 → w.cell? ⟨gx, i, none⟩ = some (.int .u64 (cx.getD i 0 : Nat)) := fun i hi => row_cell hx (by omega)
  have cxjj := cxj j hlt
  obtain ⟨x, hxj⟩ : ∃ x, x = cx.getD j 0 := ⟨_, rfl⟩
  rw [← hxj] at cxjj
  have CX := hid cxj
  have HXJ := hid hxj
  have LZ := hid (zl_length cx s t (j + 1))
  obtain ⟨R, hR⟩ : ∃ R, R = low cx t (j + 1) := ⟨_, rfl⟩
  have hR' : (x : Int) / 2 ^ t = (R : Int) := by rw [hR, hxj]; simp [low]
  rw [← hR]
  clear cxj hxj hR
  go_enter Yba.func21, Yba.ntmps21
  go_wp2
  go_loopw [8] (fun u wr => ∃ i : Nat, i ≤ j ∧ u = .int .i64 i ∧ Hid (wr.heap[gz]? = some (row (top cz (zl cx s t (j + 1)) o (i + 1) (j + 1)))) ∧ Fr (· = gz) w wr) (fun u _ => (intOf u).toNat)
  case atStart => exact ⟨j, Nat.le_refl _, rfl, hid (by rw [top_start _ _ _ _ LZ.out]; exact hz), Fr.refl _ _⟩
  case round =>
    obtain ⟨i, hi, rfl, hr, hf⟩ := hrel
    have hx1 : wr.heap[gx]? = some (row cx) := (hf.block gx (lt_of_block hx) (fun e => hne.out e.symm)).trans hx
    have fz : wr.frozen? ⟨gz, o + i, none⟩ = false := row_free hr.out
    obtain ⟨z0, cz0⟩ : ∃ z : Nat, wr.cell? ⟨gz, o + i, none⟩ = some (.int .u64 (z : Int)) := ⟨_, row_cell hr.out (by rw [top_length LZ.out (by omega) lz]; omega)⟩
    by_cases h0 : 0 < i
    · obtain ⟨l, hil⟩ : ∃ l, i = l + 1 := ⟨i - 1, by omega⟩
      have ca : wr.cell? ⟨gx, i, none⟩ = some (.int .u64 (cx.getD i 0 : Nat)) := row_cell hx1 (by omega)
      have cb : wr.cell? ⟨gx, l, none⟩ = some (.int .u64 (cx.getD l 0 : Nat)) := row_cell hx1 (by omega)
      obtain ⟨a, ha⟩ : ∃ a, a = cx.getD i 0 := ⟨_, rfl⟩
      obtain ⟨b, hb⟩ : ∃ b, b = cx.getD l 0 := ⟨_, rfl⟩
      have hor := or_round hst.out bx l a b (by rw [← hil]; exact ha) hb
      rw [← ha] at ca
      rw [← hb] at cb
      obtain ⟨d, hd⟩ : ∃ d, d = zdig cx s t (l + 1) := ⟨_, rfl⟩
      rw [← hd] at hor
      have HD := hid hd
      have HIL := hid hil
      have hil' : (i : Int) - 1 = (l : Int) := by omega
      have m1 : l < j + 1 := by omega
      have m2 : i < j + 1 := by omega
      have n1 : (0 : Int) ≤ (i : Int) := by omega
      have n2 : (0 : Int) ≤ (l : Int) := by omega
      have n3 : (i : Int) < (j : Int) + 1 := by omega
      have n4 : (l : Int) < (j : Int) + 1 := by omega
      have nb : (⟨gx, i, none⟩ : Addr) ≠ ⟨gz, o + i, none⟩ := fun h => hne.out (by simpa using (congrArg Addr.block h).symm)
      have nb2 : (⟨gx, l, none⟩ : Addr) ≠ ⟨gz, o + i, none⟩ := fun h => hne.out (by simpa using (congrArg Addr.block h).symm)
      have s1 : ∀ v, (wr.setCell ⟨gz, o + i, none⟩ v).cell? ⟨gx, i, none⟩ = some (.int .u64 (a : Int)) := fun v => by rw [World.cell?_setCell_other _ _ _ _ nb.symm]; exact ca
      have s2 : ∀ v, (wr.setCell ⟨gz, o + i, none⟩ v).cell? ⟨gx, l, none⟩ = some (.int .u64 (b : Int)) := fun v => by rw [World.cell?_setCell_other _ _ _ _ nb2.symm]; exact cb
      have hw1 : IntKind.i64.wrap ((i : Int) - 1) = (l : Int) := by rw [IntKind.wrap_i64]; omega
      clear ha hb hd hx1 hil nb nb2
      go_wp2
      go_region
      go_wp2
      go_roundw
      case rel =>
        have hl := HIL.out
        have hr' := row_set (d := d) (i := o + i) hr.out
        have hset : (top cz (zl cx s t (j + 1)) o (i + 1) (j + 1)).set (o + i) d = top cz (zl cx s t (j + 1)) o i (j + 1) := by
          rw [HD.out, ← hl, ← zl_getD (n := j + 1) (by omega)]
          exact top_set LZ.out (by omega) lz
        rw [hset, hl] at hr'
        exact ⟨l, by omega, rfl, hid (by rw [hl]; exact hr'), (hf.setCell (ad := ⟨gz, o + i, none⟩) (fun _ => rfl) _).drew⟩
      case measure => simp [intOf]; omega
    · obtain rfl : i = 0 := by omega
      have ca : wr.cell? ⟨gx, 0, none⟩ = some (.int .u64 (cx.getD 0 0 : Nat)) := row_cell hx1 (by omega)
      obtain ⟨a, ha⟩ : ∃ a, a = cx.getD 0 0 := ⟨_, rfl⟩
      have hsh := shl_first (s := s) (t := t) cx a ha
      rw [← ha] at ca
      obtain ⟨d, hd⟩ : ∃ d, d = zdig cx s t 0 := ⟨_, rfl⟩
      rw [← hd] at hsh
      have HD := hid hd
      have fz' : wr.frozen? ⟨gz, o, none⟩ = false := fz
      have cz0' : wr.cell? ⟨gz, o, none⟩ = some (.int .u64 (z0 : Int)) := cz0
      have hl0 : 0 < j + 1 := by omega
      clear ha hd hx1 fz cz0
      go_wp2
      go_ret
      have hr' := row_set (d := d) (i := o + 0) hr.out
      have hset : (top cz (zl cx s t (j + 1)) o (0 + 1) (j + 1)).set (o + 0) d = top cz (zl cx s t (j + 1)) o 0 (j + 1) := by
        rw [HD.out, ← zl_getD (n := j + 1) (by omega)]
        exact top_set LZ.out (by omega) lz
      rw [hset] at hr'
      exact ⟨rfl, hr', hf.setCell (ad := ⟨gz, o + 0, none⟩) (fun _ => rfl) _⟩
end Go.Proofs.Ybulkanxo
