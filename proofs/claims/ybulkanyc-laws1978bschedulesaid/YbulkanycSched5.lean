/-
  LawS1978BSchedule: rows of events, of lanes, of numbers; append as a step.
-/
import Derived.Test.YbulkanycSched4
namespace Go.Proofs.Ybulkanyc
open Go.RowKit
set_option linter.unusedVariables false

/-- The cells of event k. -/
def ev (A : Nat → Int) (ab : Nat → Nat) (k : Nat) : List Value := [.int .i64 (A k), .int .u64 ((k : Int) + 1), .iface 102 (.pointer (some ⟨ab k, 0, none⟩))]
def evs (A : Nat → Int) (ab : Nat → Nat) (ks : List Nat) : List Value := ks.flatMap (ev A ab)
def laneRow (x : Lane) : List Value := [.int .i64 x.1, x.2.1, .int .i64 0, .int .i64 (x.2.2.length : Int)]
def lanesRow (Ls : List Lane) : List Value := Ls.flatMap laneRow
def ints (H : List Nat) : List Value := H.map (fun (l : Nat) => Value.int .i64 (l : Int))

theorem evs_length (A : Nat → Int) (ab : Nat → Nat) (ks : List Nat) : (evs A ab ks).length = ks.length * 3 := by
  induction ks with
  | nil => rfl
  | cons k ks ih =>
    have : evs A ab (k :: ks) = ev A ab k ++ evs A ab ks := rfl
    rw [this, List.length_append, ih]
    simp [ev]; omega
theorem evs_append (A : Nat → Int) (ab : Nat → Nat) (ks js : List Nat) : evs A ab (ks ++ js) = evs A ab ks ++ evs A ab js := by simp [evs]
theorem evs_get (A : Nat → Int) (ab : Nat → Nat) (ks : List Nat) (j c : Nat) (hj : j < ks.length) (hc : c < 3) : (evs A ab ks)[j * 3 + c]? = (ev A ab (ks.getD j 0))[c]? := by
  induction ks generalizing j with
  | nil => simp at hj
  | cons k ks ih =>
    have e : evs A ab (k :: ks) = ev A ab k ++ evs A ab ks := rfl
    cases j with
    | zero =>
      rw [e, List.getElem?_append_left (by simp [ev]; omega)]
      simp [List.getD]
    | succ j =>
      rw [e, List.getElem?_append_right (by simp [ev]; omega)]
      have : (j + 1) * 3 + c - (ev A ab k).length = j * 3 + c := by simp [ev]; omega
      rw [this, ih j (by simpa using hj)]
      simp [List.getD]
theorem evs_set (A : Nat → Int) (ab : Nat → Nat) (ks : List Nat) (j k : Nat) : (((evs A ab ks).set (j * 3) (.int .i64 (A k))).set (j * 3 + 1) (.int .u64 ((k : Int) + 1))).set (j * 3 + 2) (.iface 102 (.pointer (some ⟨ab k, 0, none⟩))) = evs A ab (ks.set j k) := by
  induction ks generalizing j with
  | nil => simp [evs]
  | cons x ks ih =>
    cases j with
    | zero => simp [evs, ev]
    | succ j =>
      have e : evs A ab (x :: ks) = .int .i64 (A x) :: .int .u64 ((x : Int) + 1) :: .iface 102 (.pointer (some ⟨ab x, 0, none⟩)) :: evs A ab ks := rfl
      have e2 : evs A ab (x :: ks.set j k) = .int .i64 (A x) :: .int .u64 ((x : Int) + 1) :: .iface 102 (.pointer (some ⟨ab x, 0, none⟩)) :: evs A ab (ks.set j k) := rfl
      rw [List.set_cons_succ, e, e2, ← ih j]
      have a1 : (j + 1) * 3 = j * 3 + 3 := by omega
      rw [a1]
      have a2 : j * 3 + 3 + 1 = j * 3 + 1 + 3 := by omega
      have a3 : j * 3 + 3 + 2 = j * 3 + 2 + 3 := by omega
      rw [a2, a3]
      rfl

theorem lanesRow_length (Ls : List Lane) : (lanesRow Ls).length = Ls.length * 4 := by
  induction Ls with
  | nil => rfl
  | cons k ks ih =>
    have : lanesRow (k :: ks) = laneRow k ++ lanesRow ks := rfl
    rw [this, List.length_append, ih]
    simp [laneRow]; omega
theorem lanesRow_get (Ls : List Lane) (j c : Nat) (x : Lane) (hj : Ls[j]? = some x) (hc : c < 4) : (lanesRow Ls)[j * 4 + c]? = (laneRow x)[c]? := by
  induction Ls generalizing j with
  | nil => simp at hj
  | cons k ks ih =>
    have e : lanesRow (k :: ks) = laneRow k ++ lanesRow ks := rfl
    cases j with
    | zero =>
      simp at hj
      subst hj
      rw [e, List.getElem?_append_left (by simp [laneRow]; omega)]
      simp
    | succ j =>
      rw [e, List.getElem?_append_right (by simp [laneRow]; omega)]
      have : (j + 1) * 4 + c - (laneRow k).length = j * 4 + c := by simp [laneRow]; omega
      rw [this, ih j (by simpa using hj)]
theorem lanesRow_set (Ls : List Lane) (j : Nat) (x : Lane) (v : Value) (m : List Nat) (hj : Ls[j]? = some x) :
    (((lanesRow Ls).set (j * 4 + 1) v).set (j * 4 + 2) (.int .i64 0)).set (j * 4 + 3) (.int .i64 (m.length : Int)) = lanesRow (Ls.set j (x.1, v, m)) := by
  induction Ls generalizing j with
  | nil => simp at hj
  | cons y ks ih =>
    cases j with
    | zero =>
      simp at hj
      subst hj
      rfl
    | succ j =>
      have e : lanesRow (y :: ks) = .int .i64 y.1 :: y.2.1 :: .int .i64 0 :: .int .i64 (y.2.2.length : Int) :: lanesRow ks := rfl
      have e2 : lanesRow (y :: ks.set j (x.1, v, m)) = .int .i64 y.1 :: y.2.1 :: .int .i64 0 :: .int .i64 (y.2.2.length : Int) :: lanesRow (ks.set j (x.1, v, m)) := rfl
      rw [List.set_cons_succ, e, e2, ← ih j (by simpa using hj)]
      have a1 : (j + 1) * 4 + 1 = j * 4 + 1 + 4 := by omega
      have a2 : (j + 1) * 4 + 2 = j * 4 + 2 + 4 := by omega
      have a3 : (j + 1) * 4 + 3 = j * 4 + 3 + 4 := by omega
      rw [a1, a2, a3]
      rfl
theorem ints_get (H : List Nat) (j : Nat) (hj : j < H.length) : (ints H)[j]? = some (.int .i64 ((H.getD j 0 : Nat) : Int)) := by
  simp [ints, List.getD, hj]
theorem ints_set (H : List Nat) (j x : Nat) : (ints H).set j (.int .i64 (x : Int)) = ints (H.set j x) := by
  simp [ints, List.map_set]

theorem Fr.of_grown {w w' : World} {row : Option Nat} (h : w.grownBy w' row) : Fr (fun k => some k = row) w w' :=
  ⟨h.os, h.tape, h.output, h.size, fun k hk hs => h.block k hk hs⟩
theorem owns_fr {w w' : World} {base : Nat} {e : TypeId} {size : Nat} {v : Value} {n : Nat} {xs : List Value} {S : Nat → Prop} (h : w.ownsRow base e size v n xs) (f : Fr S w w') (hs : ∀ k, v.ownBlock = some k → ¬ S k) : w'.ownsRow base e size v n xs := by
  refine ⟨h.1, ?_⟩
  rcases h.2 with hn | ⟨g, cap, cur, rfl, hb, hgg, rest⟩
  · exact .inl hn
  · refine .inr ⟨g, cap, cur, rfl, hb, ?_, rest⟩
    rw [f.block g (Array.getElem?_eq_some_iff.1 hgg).1 (hs g rfl)]
    exact hgg

theorem run_append_one {P : Program} (w : World) (base : Nat) (t ty e : TypeId) (i : TypeInfo) (z : Value) (size bytes : Nat) (ht : P.underlying t = some (.slice e)) (hi : P.info? e = some i) (hz : i.zero = some z)
    (hsize : i.size = size) (hby : i.bytes = bytes) (hzs : z.cells.size = size) (hsz : 0 < size)
    (v : Value) (n : Nat) (xs : List Value) (hown : w.ownsRow base e size v n xs)
    (ad : Addr) (c : Nat) (news : List Value) (hl : news.length = 1 * size) (hnews : ∀ j u, news[j]? = some u → w.cell? (ad.add j) = some u) (h1 : ∀ u ∈ news, u.oneCell' = true)
    (h63 : n + 1 ≤ maxLen) (hbytes : (n + 1) * bytes ≤ 140737488355328) (hbase : base ≤ w.heap.size) :
    ∃ g cap w', (Builtin.append_ #[t, t] ty #[v, .slice (some ad) 1 c]).run P w = .ok (.slice (some ⟨g, 0, none⟩) (n + 1) cap) w' ∧ w'.ownsRow base e size (.slice (some ⟨g, 0, none⟩) (n + 1) cap) (n + 1) (xs ++ news) ∧ w.grownBy w' v.ownBlock ∧ (v.ownBlock = some g ∨ w.heap.size ≤ g) := by
  obtain ⟨v', w', hr, h2, h3, h4⟩ := run_append_own (P := P) w base t ty e i z size bytes ht hi hz hsize hby hzs hsz v n xs hown ad 1 c news hl hnews h1 h63 hbytes hbase
  have hsmall : n + 1 ≤ 9223372036854775807 := by simp only [maxLen] at h63; omega
  subst hsize
  subst hby
  rcases hown.2 with ⟨rfl, rfl⟩ | ⟨g, cap, cur, rfl, hbg, hg, hnc, hcm, hcs, htake⟩
  · have k := run_append_nil (P := P) w t ty e i z ht hi hz ad 1 c news hl hnews (by omega) (by omega) (by have hb := hbytes; simp only [Nat.zero_add] at hb; omega)
    rw [hr] at k
    simp only [Result.ok.injEq] at k
    obtain ⟨rfl, k2⟩ := k
    exact ⟨_, _, w', hr, h2, h3, .inr (Nat.le_refl _)⟩
  · by_cases hroom : n + 1 ≤ cap
    · have hfit : n * i.size + news.length ≤ cur.size := by rw [hl, hcs, ← Nat.add_mul]; exact Nat.mul_le_mul_right _ hroom
      have k := run_append_room (P := P) w t ty e i ht hi g n cap cur hg ad 1 c news hl hnews h1 hroom hfit
      rw [hr] at k
      simp only [Result.ok.injEq] at k
      obtain ⟨rfl, k2⟩ := k
      exact ⟨g, cap, w', hr, h2, h3, .inl rfl⟩
    · have holds : ∀ j u, xs[j]? = some u → w.cell? ((⟨g, 0, none⟩ : Addr).add j) = some u := hown.cells (g := g) rfl
      have k := run_append_grow (P := P) w t ty e i z ht hi hz ⟨g, 0, none⟩ n cap xs hown.1 holds ad 1 c news hl hnews (by omega) (by omega) (growslice_fits (by omega) hbytes)
      rw [hr] at k
      simp only [Result.ok.injEq] at k
      obtain ⟨rfl, k2⟩ := k
      exact ⟨_, _, w', hr, h2, h3, .inr (Nat.le_refl _)⟩

/-- append of ONE element onto a row of the call's own, as a step of a region that draws. -/
theorem step_append_one {P : Program} {ops : Array Oper} {o : Oper} {a : Act} {w : World} {K : Act → World → Prop} {Q : Exit → Act → World → Prop} {E : Prop}
    (hg : o.guard = none) (s x : Operand) (t : TypeId) (hop : o.op = Op.call { callee := Callee.builtin Builtin.append, args := #[s, x], argTypes := #[t, t] })
    (base : Nat) (e : TypeId) (i : TypeInfo) (z : Value) (size bytes : Nat) (ht : P.underlying t = some (.slice e)) (hi : P.info? e = some i) (hz : i.zero = some z)
    (hsize : i.size = size) (hby : i.bytes = bytes) (hzs : z.cells.size = size) (hsz : 0 < size)
    (v : Value) (n : Nat) (xs : List Value) (hs : a.eval s = v) (hown : w.ownsRow base e size v n xs)
    (ad : Addr) (c : Nat) (news : List Value) (hx : a.eval x = .slice (some ad) 1 c) (hl : news.length = 1 * size) (hnews : ∀ j u, news[j]? = some u → w.cell? (ad.add j) = some u) (h1 : ∀ u ∈ news, u.oneCell' = true)
    (h63 : n + 1 ≤ maxLen) (hbytes : (n + 1) * bytes ≤ 140737488355328) (hbase : base ≤ w.heap.size)
    (h : ∀ g cap w', w'.ownsRow base e size (.slice (some ⟨g, 0, none⟩) (n + 1) cap) (n + 1) (xs ++ news) → w.grownBy w' v.ownBlock → (v.ownBlock = some g ∨ w.heap.size ≤ g) → K (a.put o.dst (.slice (some ⟨g, 0, none⟩) (n + 1) cap)) w') :
    if Region.wanted o (yielded ops a.tmps) = true then Oper.wp P o a w K Q else E := by
  have hw : Region.wanted o (yielded ops a.tmps) = true := by simp [Region.wanted, hg]
  rw [if_pos hw]
  obtain ⟨g, cap, w', hr, h2, h3, h4⟩ := run_append_one (P := P) w base t o.type e i z size bytes ht hi hz hsize hby hzs hsz v n xs hown ad c news hl hnews h1 h63 hbytes hbase
  unfold Oper.wp execOp
  simp only [hop, resolve, invoke, builtin, Sem.run_bind, Sem.run_pure, Result.andThen_ok, List.map_toArray, List.map_cons, List.map_nil, hs, hx, hr]
  exact h g cap w' h2 h3 h4
/-- The same in a row of operations that draws nothing. -/
theorem wpList_append_one {P : Program} {w : World} {ops : Array Oper} {rest : List Oper} {o : Oper} {a : Act} {Q : Exit → Act → World → Prop} (hgd : o.guard = none) (s x : Operand) (t : TypeId)
    (ho : o.op = .call { callee := .builtin .append, args := #[s, x], argTypes := #[t, t] })
    (base : Nat) (e : TypeId) (i : TypeInfo) (z : Value) (size bytes : Nat) (ht : P.underlying t = some (.slice e)) (hi : P.info? e = some i) (hz : i.zero = some z)
    (hsize : i.size = size) (hby : i.bytes = bytes) (hzs : z.cells.size = size) (hsz : 0 < size)
    (v : Value) (n : Nat) (xs : List Value) (hs : a.eval s = v) (hown : w.ownsRow base e size v n xs)
    (ad : Addr) (c : Nat) (news : List Value) (hx : a.eval x = .slice (some ad) 1 c) (hl : news.length = 1 * size) (hnews : ∀ j u, news[j]? = some u → w.cell? (ad.add j) = some u) (h1 : ∀ u ∈ news, u.oneCell' = true)
    (h63 : n + 1 ≤ maxLen) (hbytes : (n + 1) * bytes ≤ 140737488355328) (hbase : base ≤ w.heap.size)
    (h : ∀ g cap w', w'.ownsRow base e size (.slice (some ⟨g, 0, none⟩) (n + 1) cap) (n + 1) (xs ++ news) → w.grownBy w' v.ownBlock → (v.ownBlock = some g ∨ w.heap.size ≤ g) → wpList P ops Q rest (a.put o.dst (.slice (some ⟨g, 0, none⟩) (n + 1) cap)) w') : wpList P ops Q (o :: rest) a w := by
  refine wpList_plain hgd fun K hK => ?_
  obtain ⟨g, cap, w', hr, h2, h3, h4⟩ := run_append_one (P := P) w base t o.type e i z size bytes ht hi hz hsize hby hzs hsz v n xs hown ad c news hl hnews h1 h63 hbytes hbase
  unfold Oper.wp execOp
  simp only [ho, resolve, invoke, builtin, Sem.run_bind, Sem.run_pure, Result.andThen_ok, List.map_toArray, List.map_cons, List.map_nil, hs, hx, hr]
  exact hK _ _ (h g cap w' h2 h3 h4)
end Go.Proofs.Ybulkanyc
