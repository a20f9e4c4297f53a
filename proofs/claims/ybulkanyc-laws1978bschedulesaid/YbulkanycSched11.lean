/-
  LawS1978BSchedule: fifo.push on a lane.
-/
import Derived.Test.YbulkanycSched10
namespace Go.Proofs.Ybulkanyc
open Go.RowKit
set_option linter.unusedVariables false

/-- A ring's length. -/
def Pow (sz : Nat) : Prop := sz = 64 ∨ sz = 128 ∨ sz = 256 ∨ sz = 512
theorem and_mask (len sz t : Nat) (hs : sz = 2 ^ t) (ht : t ≤ 10) (h : len < sz) : bits .and .i64 (len : Int) ((sz : Int) - 1) = (len : Int) := by
  have h1024 : (2 : Nat) ^ t ≤ 2 ^ 10 := Nat.pow_le_pow_right (by decide) ht
  have hb : ((sz : Int) - 1) = ((sz - 1 : Nat) : Int) := by omega
  rw [hb]
  show IntKind.i64.wrap ((BitVec.ofInt 64 (len : Int) &&& BitVec.ofInt 64 ((sz - 1 : Nat) : Int)).toNat : Int) = _
  rw [BitVec.toNat_and, ofInt_u64 len (by omega), ofInt_u64 (sz - 1) (by omega), IntKind.wrap_i64, hs, Nat.and_two_pow_sub_one_eq_mod, Nat.mod_eq_of_lt (by omega)]
  omega
theorem Pow.exp {sz : Nat} (h : Pow sz) : ∃ t, sz = 2 ^ t ∧ t ≤ 9 := by
  rcases h with rfl | rfl | rfl | rfl
  · exact ⟨6, by decide, by decide⟩
  · exact ⟨7, by decide, by decide⟩
  · exact ⟨8, by decide, by decide⟩
  · exact ⟨9, by decide, by decide⟩
theorem Pow.and {sz len : Nat} (h : Pow sz) (hl : len < sz) : bits .and .i64 (len : Int) ((sz : Int) - 1) = (len : Int) := by
  obtain ⟨t, e, ht⟩ := h.exp
  exact and_mask len sz t e (by omega) hl

/-- A lane's ring: nil where it holds nothing yet. -/
def RingAt (A : Nat → Int) (ab : Nat → Nat) (base : Nat) (w : World) (rv : Value) (m : List Nat) : Prop :=
  (rv = .slice none 0 0 ∧ m = []) ∨ ∃ (g sz : Nat) (cur : Array Value), rv = .slice (some ⟨g, 0, none⟩) sz sz ∧ base ≤ g ∧ w.heap[g]? = some (.cells cur 112) ∧ cur.size = sz * 3 ∧ Pow sz ∧ 0 < m.length ∧ m.length ≤ sz ∧ cur.toList.take (m.length * 3) = evs A ab m
theorem RingAt.fr {A : Nat → Int} {ab : Nat → Nat} {base : Nat} {w w' : World} {rv : Value} {m : List Nat} {S : Nat → Prop} (h : RingAt A ab base w rv m) (f : Fr S w w') (hs : ∀ g, rv.ownBlock = some g → ¬ S g) : RingAt A ab base w' rv m := by
  rcases h with h | ⟨g, sz, cur, rfl, h1, h2, h3⟩
  · exact .inl h
  · exact .inr ⟨g, sz, cur, rfl, h1, (f.block g (lt_of_block h2) (hs g rfl)).trans h2, h3⟩
theorem RingAt.lt {A : Nat → Int} {ab : Nat → Nat} {base : Nat} {w : World} {rv : Value} {m : List Nat} (h : RingAt A ab base w rv m) {g : Nat} (hg : rv.ownBlock = some g) : base ≤ g ∧ ∃ cur, w.heap[g]? = some (.cells cur 112) := by
  rcases h with ⟨rfl, _⟩ | ⟨g', sz, cur, rfl, h1, h2, h3⟩
  · simp [Value.ownBlock] at hg
  · simp [Value.ownBlock] at hg
    subst hg
    exact ⟨h1, cur, h2⟩

theorem take_three (c : List Value) (p : Nat) (a b d : Value) (h : p + 3 ≤ c.length) : (((c.set p a).set (p + 1) b).set (p + 2) d).take (p + 3) = c.take p ++ [a, b, d] := by
  obtain ⟨x, y, z, rest, e⟩ : ∃ x y z rest, c.drop p = x :: y :: z :: rest := by
    have hl : 3 ≤ (c.drop p).length := by simp; omega
    match hd : c.drop p, hl with
    | x :: y :: z :: rest, _ => exact ⟨x, y, z, rest, rfl⟩
  have hp : (c.take p).length = p := by simp; omega
  have hc : c = c.take p ++ (x :: y :: z :: rest) := by rw [← e]; simp
  generalize hq : c.take p = q at hc hp
  subst hp
  rw [hc]
  simp [List.take_append]
  exact List.take_of_length_le (by omega)
theorem set_same (xs : List Value) (i : Nat) (v : Value) (h : xs[i]? = some v) : xs.set i v = xs := by
  apply List.ext_getElem?
  intro j
  rw [List.getElem?_set]
  by_cases e : i = j
  · subst e
    obtain ⟨hl, hv⟩ := List.getElem?_eq_some_iff.1 h
    simp [hl, hv]
  · simp [e]
theorem own_block {w w' : World} {base e size g n cap : Nat} {xs xs' : List Value} (h : w.ownsRow base e size (.slice (some ⟨g, 0, none⟩) n cap) n xs) {cur cur' : Array Value} (hc : w.heap[g]? = some (.cells cur e)) (hc' : w'.heap[g]? = some (.cells cur' e)) (hs : cur'.size = cur.size) (ht : cur'.toList.take (n * size) = xs') (hx : xs'.length = xs.length) : w'.ownsRow base e size (.slice (some ⟨g, 0, none⟩) n cap) n xs' := by
  refine ⟨by rw [hx]; exact h.1, ?_⟩
  rcases h.2 with ⟨h', _⟩ | ⟨g', cap', c0, h', hb, hg, hnc, hcm, hcs, htake⟩
  · simp at h'
  · simp only [Value.slice.injEq, Option.some.injEq, Addr.mk.injEq, and_true, true_and] at h'
    obtain ⟨rfl, rfl⟩ := h'
    rw [hc] at hg
    simp only [Option.some.injEq, Obj.cells.injEq, and_true] at hg
    subst hg
    exact .inr ⟨g, cap, cur', rfl, hb, hc', hnc, hcm, by rw [hs]; exact hcs, ht⟩
theorem own_cur {w : World} {base e size g n cap : Nat} {xs : List Value} (h : w.ownsRow base e size (.slice (some ⟨g, 0, none⟩) n cap) n xs) : ∃ cur : Array Value, w.heap[g]? = some (.cells cur e) ∧ cur.toList.take (n * size) = xs ∧ n * size ≤ cur.size := by
  rcases h.2 with ⟨h', _⟩ | ⟨g', cap', c0, h', hb, hg, hnc, hcm, hcs, htake⟩
  · simp at h'
  · simp only [Value.slice.injEq, Option.some.injEq, Addr.mk.injEq, and_true, true_and] at h'
    obtain ⟨rfl, rfl⟩ := h'
    exact ⟨c0, hg, htake, by rw [hcs]; exact Nat.mul_le_mul_right _ hnc⟩

theorem evs_one (A : Nat → Int) (ab : Nat → Nat) (m : List Nat) : ∀ v ∈ evs A ab m, v.oneCell' = true := by
  intro v hv
  simp only [evs, List.mem_flatMap, ev] at hv
  obtain ⟨k, _, hv⟩ := hv
  simp at hv
  rcases hv with rfl | rfl | rfl <;> rfl

theorem fpush_any (A : Nat → Int) (ab : Nat → Nat) (base lb n cap l k : Nat) (Ls : List Lane) (x : Lane) (w : World) (hx : Ls[l]? = some x) (hn : n = Ls.length) (own : w.ownsRow base 100 4 (.slice (some ⟨lb, 0, none⟩) n cap) n (lanesRow Ls))
    (ring : RingAt A ab base w x.2.1 x.2.2) (hlen : x.2.2.length ≤ 511) (hbase : base ≤ w.heap.size) :
    Calls Yba.prog 21 #[.pointer (some ⟨lb, l * 4 + 1, none⟩), .agg #[.int .i64 (A k), .int .u64 ((k : Int) + 1), .iface 102 (.pointer (some ⟨ab k, 0, none⟩))]] w fun e w' => .returned (.tuple #[]) = e ∧
      ∃ rv', RingAt A ab base w' rv' (x.2.2 ++ [k]) ∧ w'.ownsRow base 100 4 (.slice (some ⟨lb, 0, none⟩) n cap) n (lanesRow (Ls.set l (x.1, rv', x.2.2 ++ [k]))) ∧ (∀ g, rv'.ownBlock = some g → x.2.1.ownBlock = some g ∨ w.heap.size ≤ g) ∧ Fr (fun j => j = lb ∨ x.2.1.ownBlock = some j) w w' := by
  obtain ⟨lcur, hlb, htk, hsz⟩ := own_cur own
  have hl : l < n := by rw [hn]; exact (List.getElem?_eq_some_iff.1 hx).1
  have lget : ∀ c, c < 4 → lcur[l * 4 + c]? = (laneRow x)[c]? := by
    intro c hc
    have h1 : (lanesRow Ls)[l * 4 + c]? = (laneRow x)[c]? := lanesRow_get Ls l c x hx hc
    rw [← htk, List.getElem?_take, if_pos (by omega)] at h1
    simpa using h1
  have c0 := lget 1 (by omega)
  have c1 := lget 2 (by omega)
  have c2 := lget 3 (by omega)
  have elen : ((x.2.2.length : Int) + 1) = ((x.2.2 ++ [k]).length : Int) := by simp
  have lens : ∀ y : Lane, (lanesRow (Ls.set l y)).length = (lanesRow Ls).length := by intro y; rw [lanesRow_length, lanesRow_length, List.length_set]
  rcases ring with ⟨r1, r2⟩ | ⟨g, sz, cur, r1, r2, r3, r4, r5, r6, r7, r8⟩
  · have c0' : lcur[l * 4 + 1]? = some (.slice none 0 0) := by rw [c0, ← r1]; rfl
    have c2' : lcur[l * 4 + 3]? = some (.int .i64 0) := by rw [c2]; simp [laneRow, r2]
    refine (fpush_nil A ab lb (l * 4 + 1) k lcur w hlb c0' c1 c2' (by decide)).mono ?_
    rintro e w' ⟨rfl, g', Z, z1, z2, z3, z4, z5⟩
    refine ⟨rfl, .slice (some ⟨g', 0, none⟩) 64 64, ?_, ?_, ?_, ?_⟩
    · refine .inr ⟨g', 64, _, rfl, by omega, z4, by simp [z2], .inl rfl, by simp, by simp [r2], ?_⟩
      have := take_three Z.toList 0 (.int .i64 (A k)) (.int .u64 ((k : Int) + 1)) (.iface 102 (.pointer (some ⟨ab k, 0, none⟩))) (by simp [z2])
      rw [r2]
      simp only [Array.toList_setIfInBounds, List.nil_append, List.length_singleton]
      simpa [evs, ev] using this
    · refine own_block own hlb z3 (by simp) ?_ (lens _)
      have := lanesRow_set Ls l x (.slice (some ⟨g', 0, none⟩) 64 64) (x.2.2 ++ [k]) hx
      rw [← this, ← htk]
      simp only [Array.toList_setIfInBounds, List.take_set, r2]
      rfl
    · intro g hg
      simp [Value.ownBlock] at hg
      subst hg
      exact .inr z1
    · exact z5.mono (fun _ _ h => .inl h)
  · have c0' : lcur[l * 4 + 1]? = some (.slice (some ⟨g, 0, none⟩) sz sz) := by rw [c0, ← r1]; rfl
    have c2' : lcur[l * 4 + 3]? = some (.int .i64 (x.2.2.length : Int)) := c2
    have hob : x.2.1.ownBlock = some g := by rw [r1]; rfl
    by_cases hroom : x.2.2.length < sz
    · refine (fpush_room A ab lb (l * 4 + 1) g sz x.2.2.length k lcur cur w hlb c0' c1 c2' r3 r4 hroom (r5.and hroom) (by rcases r5 with h | h | h | h <;> omega)).mono ?_
      rintro e w' ⟨rfl, z1, z2, z3⟩
      refine ⟨rfl, x.2.1, ?_, ?_, ?_, ?_⟩
      · refine .inr ⟨g, sz, _, r1, r2, z2, by simp [r4], r5, by simp, by simp; omega, ?_⟩
        have := take_three cur.toList (x.2.2.length * 3) (.int .i64 (A k)) (.int .u64 ((k : Int) + 1)) (.iface 102 (.pointer (some ⟨ab k, 0, none⟩))) (by simp [r4]; omega)
        rw [evs_append, ← r8]
        simp only [Array.toList_setIfInBounds, List.length_append, List.length_singleton]
        have e3 : (x.2.2.length + 1) * 3 = x.2.2.length * 3 + 3 := by omega
        rw [e3, this]
        simp [evs, ev]
      · refine own_block own hlb z1 (by simp) ?_ (lens _)
        have := lanesRow_set Ls l x x.2.1 (x.2.2 ++ [k]) hx
        rw [set_same _ (l * 4 + 1) x.2.1 (by rw [lanesRow_get Ls l 1 x hx (by omega)]; rfl), set_same _ (l * 4 + 2) (.int .i64 0) (by rw [lanesRow_get Ls l 2 x hx (by omega)]; rfl)] at this
        rw [← this, ← htk]
        simp only [Array.toList_setIfInBounds, List.take_set, elen]
      · intro g' hg'
        exact .inl hg'
      · exact z3.mono (fun j _ h => h.elim .inl (fun e => .inr (by rw [e]; exact hob)))
    · have hfull : x.2.2.length = sz := by omega
      have hcs : cur.toList = evs A ab x.2.2 := by
        rw [← r8, List.take_of_length_le]
        simp [r4, hfull]
      have c2'' : lcur[l * 4 + 3]? = some (.int .i64 (sz : Int)) := by rw [c2', hfull]
      have hsz' : 64 ≤ sz ∧ sz ≤ 256 ∧ Pow (2 * sz) := by
        rcases r5 with h | h | h | h
        · exact ⟨by omega, by omega, by unfold Pow; omega⟩
        · exact ⟨by omega, by omega, by unfold Pow; omega⟩
        · exact ⟨by omega, by omega, by unfold Pow; omega⟩
        · omega
      refine (fpush_full A ab lb (l * 4 + 1) g sz (2 * sz) k lcur cur (evs A ab x.2.2) w hlb c0' c1 c2'' r3 hcs.symm (by rw [evs_length, hfull]) (evs_one A ab _) rfl hsz'.1 hsz'.2.1 (hsz'.2.2.and (by omega))).mono ?_
      rintro e w' ⟨rfl, g', Z, z1, z2, zt, z3, z4, z5⟩
      refine ⟨rfl, .slice (some ⟨g', 0, none⟩) (2 * sz) (2 * sz), ?_, ?_, ?_, ?_⟩
      · refine .inr ⟨g', 2 * sz, _, rfl, by omega, z4, by simp [z2], hsz'.2.2, by simp, by simp; omega, ?_⟩
        have := take_three Z.toList (sz * 3) (.int .i64 (A k)) (.int .u64 ((k : Int) + 1)) (.iface 102 (.pointer (some ⟨ab k, 0, none⟩))) (by simp [z2]; omega)
        rw [evs_append, ← zt]
        simp only [Array.toList_setIfInBounds, List.length_append, List.length_singleton, hfull]
        have e3 : (sz + 1) * 3 = sz * 3 + 3 := by omega
        rw [e3, this]
        simp [evs, ev]
      · refine own_block own hlb z3 (by simp) ?_ (lens _)
        have := lanesRow_set Ls l x (.slice (some ⟨g', 0, none⟩) (2 * sz) (2 * sz)) (x.2.2 ++ [k]) hx
        rw [← this, ← htk]
        simp only [Array.toList_setIfInBounds, List.take_set, ← elen, hfull]
      · intro g2 hg2
        simp [Value.ownBlock] at hg2
        subst hg2
        exact .inr z1
      · exact z5.mono (fun _ _ h => .inl h)
end Go.Proofs.Ybulkanyc
