/-
  LawS1978BSchedule: what the law's loops keep.
-/
import Derived.Test.YbulkanycSched16
import Derived.Test.YbulkanycFollow7
namespace Go.Proofs.Ybulkanyc
open Go.RowKit
set_option linter.unusedVariables false

theorem evs_congr (A : Nat → Int) (ab ab' : Nat → Nat) (ks : List Nat) (h : ∀ k ∈ ks, ab' k = ab k) : evs A ab' ks = evs A ab ks := by
  induction ks with
  | nil => rfl
  | cons x xs ih =>
    have e : ∀ f, evs A f (x :: xs) = ev A f x ++ evs A f xs := fun f => rfl
    rw [e, e, ih (fun k hk => h k (List.mem_cons_of_mem _ hk))]
    unfold ev
    rw [h x (List.mem_cons_self)]

section
variable {A : Nat → Int} {ab : Nat → Nat} {R : Nat} {since : Int} {Ab F : Nat} {acs : Array Value} {rc : Array Value} {qv lv hv : Value} {w w' : World} {b : Nat} {q : List Nat} {Ls : List Lane} {H : List Nat}
theorem St8.congr (s : St8 A ab R since Ab F acs rc qv lv hv w b q Ls H) (ab' : Nat → Nat) (h : ∀ k ∈ q ++ mem Ls, ab' k = ab k) : St8 A ab' R since Ab F acs rc qv lv hv w b q Ls H := by
  refine ⟨s.run, s.ok, ?_, s.lown, s.hown, ?_, s.qr, s.rr, s.acts, s.fired, s.hF⟩
  · rw [evs_congr A ab ab' q (fun k hk => h k (List.mem_append_left _ hk))]
    exact s.qown
  · intro l x hx
    have hm : ∀ k ∈ x.2.2, ab' k = ab k := fun k hk => h k (List.mem_append_right _ (List.mem_flatMap.2 ⟨x, List.mem_of_getElem? hx, hk⟩))
    rcases s.ring l x hx with h1 | ⟨g, sz, cur, r1, r2, r3, r4, r5, r6, r7, r8⟩
    · exact .inl h1
    · exact .inr ⟨g, sz, cur, r1, r2, r3, r4, r5, r6, r7, by rw [evs_congr A ab ab' _ hm]; exact r8⟩
/-- A block of another type turns. -/
theorem St8.other (s : St8 A ab R since Ab F acs rc qv lv hv w b q Ls H) {B : Nat} {cs : Array Value} (hB : w.heap[B]? = some (.cells cs 4)) (f : Fr (fun j => j = B) w w') : St8 A ab R since Ab F acs rc qv lv hv w' b q Ls H := by
  have o : ∀ {e : TypeId} {size n : Nat} {v : Value} {xs : List Value}, w.ownsRow R e size v n xs → e ≠ 4 → w'.ownsRow R e size v n xs := fun h hne => owns_fr h f (fun k hk e => by
    obtain ⟨cs, hc⟩ := owns_blk h hk
    exact ty_ne hc hB hne e)
  refine ⟨(f.block _ (lt_of_block s.run) (ty_ne s.run hB (by decide))).trans s.run, s.ok, o s.qown (by decide), o s.lown (by decide), o s.hown (by decide), ?_, s.qr, s.rr, (f.block _ (lt_of_block s.acts) (ty_ne s.acts hB (by decide))).trans s.acts, (f.block _ (lt_of_block s.fired) (ty_ne s.fired hB (by decide))).trans s.fired, s.hF⟩
  intro l x hx
  refine (s.ring l x hx).fr f (fun g hg e => ?_)
  obtain ⟨_, cs', hc⟩ := (s.ring l x hx).lt hg
  exact ty_ne hc hB (by decide) e
/-- The row of actions turns. -/
theorem St8.setActs (s : St8 A ab R since Ab F acs rc qv lv hv w b q Ls H) {acs' : Array Value} (hB : w'.heap[Ab]? = some (.cells acs' 102)) (f : Fr (fun j => j = Ab) w w') : St8 A ab R since Ab F acs' rc qv lv hv w' b q Ls H := by
  have o : ∀ {e : TypeId} {size n : Nat} {v : Value} {xs : List Value}, w.ownsRow R e size v n xs → e ≠ 102 → w'.ownsRow R e size v n xs := fun h hne => owns_fr h f (fun k hk e => by
    obtain ⟨cs, hc⟩ := owns_blk h hk
    exact ty_ne hc s.acts hne e)
  refine ⟨(f.block _ (lt_of_block s.run) (ty_ne s.run s.acts (by decide))).trans s.run, s.ok, o s.qown (by decide), o s.lown (by decide), o s.hown (by decide), ?_, s.qr, s.rr, hB, (f.block _ (lt_of_block s.fired) (ty_ne s.fired s.acts (by decide))).trans s.fired, s.hF⟩
  intro l x hx
  refine (s.ring l x hx).fr f (fun g hg e => ?_)
  obtain ⟨_, cs', hc⟩ := (s.ring l x hx).lt hg
  exact ty_ne hc s.acts (by decide) e
end

/-- The row of actions, the first i laid. -/
def actRow (n : Nat) (ab : Nat → Nat) (i : Nat) : Array Value := ((List.range n).map fun j => if j < i then Value.pointer (some ⟨ab j, 0, none⟩) else .pointer none).toArray
theorem actRow_zero (n : Nat) (ab : Nat → Nat) : actRow n ab 0 = Array.replicate n (.pointer none) := by
  apply Array.ext'
  simp [actRow]
  apply List.ext_getElem?
  intro j
  simp [List.getElem?_replicate]
  by_cases h : j < n <;> simp [h]
def updN (ab : Nat → Nat) (i b : Nat) : Nat → Nat := fun j => if j = i then b else ab j
theorem actRow_set (n : Nat) (ab : Nat → Nat) (i b : Nat) (h : i < n) : (actRow n ab i).setIfInBounds i (.pointer (some ⟨b, 0, none⟩)) = actRow n (updN ab i b) (i + 1) := by
  apply Array.ext'
  apply List.ext_getElem?
  intro j
  simp only [actRow, Array.toList_setIfInBounds, List.getElem?_set, List.getElem?_map, updN]
  by_cases hij : i = j
  · subst hij; simp [h]
  · have hji : ¬ j = i := fun e => hij e.symm
    by_cases hj : j < n
    · have e : j < i + 1 ↔ j < i := by omega
      simp [hij, hji, hj, e]
    · simp [hij, hj]
theorem actRow_get (n : Nat) (ab : Nat → Nat) (i j : Nat) (h : j < n) : (actRow n ab i)[j]? = some (if j < i then Value.pointer (some ⟨ab j, 0, none⟩) else .pointer none) := by
  simp [actRow, h]

/-- What the law's first loop keeps. -/
structure L1 (A : Nat → Int) (sp : Nat → Int) (R : Nat) (since : Int) (Ab F n : Nat) (w wq : World) (i : Nat) : Prop where
  ex : ∃ (ab : Nat → Nat) (rc : Array Value) (qv lv hv : Value) (q : List Nat) (Ls : List Lane) (H : List Nat), St8 A ab R since Ab F (actRow n ab i) rc qv lv hv wq i q Ls H ∧ Inv A sp i q Ls H
  fr : Fr (fun j => R ≤ j) w wq
theorem L1.acts {A : Nat → Int} {sp : Nat → Int} {R : Nat} {since : Int} {Ab F n : Nat} {w wq : World} {i : Nat} (h : L1 A sp R since Ab F n w wq i) : ∃ acs, wq.heap[Ab]? = some (.cells acs 102) ∧ (i < n → acs[i]? = some (.pointer none)) := by
  obtain ⟨ab, rc, qv, lv, hv, q, Ls, H, s, _⟩ := h.ex
  exact ⟨_, s.acts, fun hi => by rw [actRow_get _ _ _ _ hi, if_neg (by omega)]⟩
/-- One round of it: a new action, and r.after. -/
theorem L1.after {A : Nat → Int} {sp : Nat → Int} {R : Nat} {since : Int} {Ab F n : Nat} {w wq : World} {i : Nat} (h : L1 A sp R since Ab F n w wq i) (hi : i < n) (hn : n ≤ 512) (hR : R ≤ Ab) (o : Obj) (hs1 : -6 ≤ sp i) (hs2 : sp i ≤ 6) (hA : IntKind.i64.wrap (since + sp i) = A i) (hA2 : wrap64 (since + sp i) = A i) :
    Calls Yba.prog 10 #[.pointer (some ⟨R, 0, none⟩), .int .i64 (sp i), .iface 102 (.pointer (some ⟨wq.heap.size, 0, none⟩))] ((wq.setCell ⟨Ab, i, none⟩ (.pointer (some ⟨wq.heap.size, 0, none⟩))).alloc o) fun e w' => .returned (.tuple #[]) = e ∧ L1 A sp R since Ab F n w w' (i + 1) := by
  obtain ⟨ab, rc, qv, lv, hv, q, Ls, H, s, inv⟩ := h.ex
  have s1 := s.congr (updN ab i wq.heap.size) (fun k hk => by
    have : k < i := List.mem_range.1 ((inv.perm.mem_iff).1 hk)
    unfold updN
    rw [if_neg (by omega)])
  have f1 : Fr (fun j => j = Ab) wq (wq.setCell ⟨Ab, i, none⟩ (.pointer (some ⟨wq.heap.size, 0, none⟩))) := (Fr.refl (fun j => j = Ab) wq).setCell (ad := ⟨Ab, i, none⟩) (fun _ => rfl) _
  have hB := heap_setCell_same _ Ab i _ _ (.pointer (some ⟨wq.heap.size, 0, none⟩)) s.acts
  rw [actRow_set n ab i _ hi] at hB
  have s2 := (s1.setActs hB f1).fr ((Fr.refl (fun _ => False) _).alloc o)
  have e : updN ab i wq.heap.size i = wq.heap.size := by simp [updN]
  have k := after_any A (updN ab i wq.heap.size) sp R since Ab F _ i rc qv lv hv q Ls H (sp i) _ s2 inv (by omega) rfl hs1 hs2 hA hA2
  rw [e] at k
  refine k.mono ?_
  rintro e' w' ⟨rfl, rc', qv', lv', hv', q', Ls', H', s', inv', f'⟩
  refine ⟨rfl, ⟨updN ab i wq.heap.size, rc', qv', lv', hv', q', Ls', H', s', inv'⟩, ?_⟩
  exact ((h.fr.trans (f1.mono (fun j _ e => by omega))).alloc o).trans f'

/-- What the law's later loops keep: 'vis': the events that were met. -/
structure Chk (A : Nat → Int) (ab : Nat → Nat) (R : Nat) (since : Int) (Ab F n : Nat) (acs : Array Value) (rc : Array Value) (qv lv hv : Value) (q : List Nat) (Ls : List Lane) (H : List Nat) (Sb : Nat) (w wq : World) (vis : List Nat) : Prop where
  st : St8 A ab R since Ab F acs rc qv lv hv wq n q Ls H
  seen : wq.heap[Sb]? = some (.cells (seenRow n (fun k => decide (k ∈ vis))) 4)
  fr : Fr (fun j => R ≤ j) w wq
section
variable {A : Nat → Int} {ab : Nat → Nat} {R : Nat} {since : Int} {Ab F n : Nat} {acs : Array Value} {rc : Array Value} {qv lv hv : Value} {w wq wq' : World} {q : List Nat} {Ls : List Lane} {H : List Nat} {Sb : Nat} {vis : List Nat}
theorem Chk.keep (h : Chk A ab R since Ab F n acs rc qv lv hv q Ls H Sb w wq vis) (f : Fr (fun _ => False) wq wq') : Chk A ab R since Ab F n acs rc qv lv hv q Ls H Sb w wq' vis :=
  ⟨h.st.fr f, (f.block _ (lt_of_block h.seen) (fun f => f)).trans h.seen, h.fr.trans (f.mono (fun _ _ f => f.elim))⟩
theorem Chk.mark (h : Chk A ab R since Ab F n acs rc qv lv hv q Ls H Sb w wq vis) (hR : R ≤ Sb) (k : Nat) (hk : wq'.heap[Sb]? = some (.cells ((seenRow n (fun k => decide (k ∈ vis))).setIfInBounds k (.bool true)) 4)) (f : Fr (fun j => j = Sb) wq wq') : Chk A ab R since Ab F n acs rc qv lv hv q Ls H Sb w wq' (vis ++ [k]) := by
  refine ⟨h.st.other h.seen f, ?_, h.fr.trans (f.mono (fun j _ e => by omega))⟩
  rw [hk, seenRow_set]
  congr 3
  funext j
  unfold upd
  by_cases e : j = k
  · subst e; simp
  · simp [e]
/-- zzs1978bok on an event that was not met yet. -/
theorem Chk.okCall (h : Chk A ab R since Ab F n (actRow n ab n) rc qv lv hv q Ls H Sb w wq vis) (hn : n ≤ 512) (hRw : R = w.heap.size) (hRS : R ≤ Sb) (k : Nat) (hk : k < n) (hv' : k ∉ vis) (x : Addr) (c : Nat) (bs : Int) (hx : w.cell? (x.add k) = some (.int .i8 bs)) (hb1 : -128 ≤ bs) (hb2 : bs ≤ 127) (hA : IntKind.i64.wrap (since + bs.tmod 7) = A k) (hA2 : wrap64 (since + bs.tmod 7) = A k) :
    Calls Yba.prog 12 #[.agg #[.int .i64 (A k), .int .u64 ((k : Int) + 1), .iface 102 (.pointer (some ⟨ab k, 0, none⟩))], .int .i64 since, .slice (some x) n c, .slice (some ⟨Ab, 0, none⟩) n n, .slice (some ⟨Sb, 0, none⟩) n n] wq fun e w' => .returned (.bool true) = e ∧ Chk A ab R since Ab F n (actRow n ab n) rc qv lv hv q Ls H Sb w w' (vis ++ [k]) ∧ Fr (fun j => j = Sb) wq w' := by
  have hxl : x.block < w.heap.size := by
    have := World.block_lt_of_cell? w _ hx
    rw [add_blk] at this
    exact this
  refine (ok_any A ab since x n c k Ab Sb bs _ wq hk hn hb1 hb2 hA hA2 (cell_frS hx h.fr (by rw [add_blk]; omega)) ?_ h.seen ?_ (by omega) (ty_ne h.st.acts h.seen (by decide))).mono ?_
  · rw [cell_of_row _ _ _ _ _ _ h.st.acts, actRow_get n ab n k hk, if_pos hk]
  · rw [seenRow_get n _ k hk]; simp [hv']
  · rintro e w' ⟨rfl, h1, h2⟩
    exact ⟨rfl, h.mark hRS k h1 h2, h2⟩
theorem Chk.qCell {g cap : Nat} (h : Chk A ab R since Ab F n acs rc (.slice (some ⟨g, 0, none⟩) q.length cap) lv hv q Ls H Sb w wq vis) (j c : Nat) (hj : j < q.length) (hc : c < 3) : wq.cell? ⟨g, j * 3 + c, none⟩ = (ev A ab (q.getD j 0))[c]? := by
  rw [h.st.qown.cellAt (j * 3 + c) (by omega), evs_get A ab q j c hj hc]
end
end Go.Proofs.Ybulkanyc
