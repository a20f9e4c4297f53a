/-
  LawS1978BSchedule: the run in memory, as a whole.
-/
import Derived.Test.YbulkanycSched13
namespace Go.Proofs.Ybulkanyc
open Go.RowKit
set_option linter.unusedVariables false

structure St8 (A : Nat → Int) (ab : Nat → Nat) (R : Nat) (since : Int) (Ab F : Nat) (acs : Array Value) (rc : Array Value) (qv lv hv : Value) (w : World) (b : Nat) (q : List Nat) (Ls : List Lane) (H : List Nat) : Prop where
  run : w.heap[R]? = some (.cells rc 96)
  ok : RunOk rc since qv b lv hv
  qown : w.ownsRow R 112 3 qv q.length (evs A ab q)
  lown : w.ownsRow R 100 4 lv Ls.length (lanesRow Ls)
  hown : w.ownsRow R 3 1 hv H.length (ints H)
  ring : ∀ (l : Nat) (x : Lane), Ls[l]? = some x → RingAt A ab R w x.2.1 x.2.2
  qr : ∀ (l : Nat) (x : Lane) (g : Nat), Ls[l]? = some x → x.2.1.ownBlock = some g → qv.ownBlock ≠ some g
  rr : ∀ (l l' : Nat) (x x' : Lane) (g : Nat), Ls[l]? = some x → Ls[l']? = some x' → l ≠ l' → x.2.1.ownBlock = some g → x'.2.1.ownBlock ≠ some g
  acts : w.heap[Ab]? = some (.cells acs 102)
  fired : w.heap[F]? = some (.cells #[.int .i64 0] 3)
  hF : hv.ownBlock ≠ some F

theorem owns_blk {w : World} {base : Nat} {e : TypeId} {size n : Nat} {v : Value} {xs : List Value} (h : w.ownsRow base e size v n xs) {g : Nat} (hg : v.ownBlock = some g) : ∃ cs, w.heap[g]? = some (.cells cs e) := by
  rcases h.2 with ⟨rfl, _⟩ | ⟨g', cap, cur, rfl, _, hc, _⟩
  · simp [Value.ownBlock] at hg
  · simp [Value.ownBlock] at hg
    subst hg
    exact ⟨cur, hc⟩
theorem ty_ne {w : World} {b b' : Nat} {cs cs' : Array Value} {t t' : TypeId} (h : w.heap[b]? = some (.cells cs t)) (h' : w.heap[b']? = some (.cells cs' t')) (hne : t ≠ t') : b ≠ b' := by
  intro e
  subst e
  rw [h] at h'
  simp at h'
  exact hne h'.2

section
variable {A : Nat → Int} {ab : Nat → Nat} {R : Nat} {since : Int} {Ab F : Nat} {acs : Array Value} {rc : Array Value} {qv lv hv : Value} {w w' : World} {b : Nat} {q : List Nat} {Ls : List Lane} {H : List Nat}

theorem St8.fr (s : St8 A ab R since Ab F acs rc qv lv hv w b q Ls H) (f : Fr (fun _ => False) w w') : St8 A ab R since Ab F acs rc qv lv hv w' b q Ls H :=
  ⟨(f.block _ (lt_of_block s.run) (fun f => f)).trans s.run, s.ok, owns_fr s.qown f (fun _ _ f => f), owns_fr s.lown f (fun _ _ f => f), owns_fr s.hown f (fun _ _ f => f), fun l x hx => (s.ring l x hx).fr f (fun _ _ f => f), s.qr, s.rr,
    (f.block _ (lt_of_block s.acts) (fun f => f)).trans s.acts, (f.block _ (lt_of_block s.fired) (fun f => f)).trans s.fired, s.hF⟩
/-- Only the run's own block turns. -/
theorem St8.runOnly (s : St8 A ab R since Ab F acs rc qv lv hv w b q Ls H) (f : Fr (fun j => j = R) w w') {rc' : Array Value} {b' : Nat} (hr : w'.heap[R]? = some (.cells rc' 96)) (ok : RunOk rc' since qv b' lv hv) : St8 A ab R since Ab F acs rc' qv lv hv w' b' q Ls H := by
  have o : ∀ {e : TypeId} {size n : Nat} {v : Value} {xs : List Value}, w.ownsRow R e size v n xs → e ≠ 96 → w'.ownsRow R e size v n xs := fun h hne => owns_fr h f (fun k hk e => by
    obtain ⟨cs, hc⟩ := owns_blk h hk
    exact ty_ne hc s.run hne e)
  refine ⟨hr, ok, o s.qown (by decide), o s.lown (by decide), o s.hown (by decide), ?_, s.qr, s.rr, (f.block _ (lt_of_block s.acts) (ty_ne s.acts s.run (by decide))).trans s.acts, (f.block _ (lt_of_block s.fired) (ty_ne s.fired s.run (by decide))).trans s.fired, s.hF⟩
  intro l x hx
  refine (s.ring l x hx).fr f (fun g hg e => ?_)
  obtain ⟨_, cs, hc⟩ := (s.ring l x hx).lt hg
  exact ty_ne hc s.run (by decide) e
theorem St8.queue (s : St8 A ab R since Ab F acs rc qv lv hv w b q Ls H) {g cap : Nat} {q' : List Nat} (own : w'.ownsRow R 112 3 (.slice (some ⟨g, 0, none⟩) q'.length cap) q'.length (evs A ab q')) (hr : w'.heap[R]? = some (.cells (rc.setIfInBounds 5 (.slice (some ⟨g, 0, none⟩) q'.length cap)) 96))
    (gw : qv.ownBlock = some g ∨ w.heap.size ≤ g) (f : Fr (fun j => j = R ∨ qv.ownBlock = some j) w w') : St8 A ab R since Ab F acs (rc.setIfInBounds 5 (.slice (some ⟨g, 0, none⟩) q'.length cap)) (.slice (some ⟨g, 0, none⟩) q'.length cap) lv hv w' b q' Ls H := by
  have nS : ∀ {j : Nat} {cs : Array Value} {t : TypeId}, w.heap[j]? = some (.cells cs t) → t ≠ 96 → t ≠ 112 → ¬ (j = R ∨ qv.ownBlock = some j) := by
    intro j cs t hj h1 h2 h
    rcases h with h | h
    · exact ty_ne hj s.run h1 h
    · obtain ⟨cs', hc⟩ := owns_blk s.qown h
      exact ty_ne hj hc h2 rfl
  have o : ∀ {e : TypeId} {size n : Nat} {v : Value} {xs : List Value}, w.ownsRow R e size v n xs → e ≠ 96 → e ≠ 112 → w'.ownsRow R e size v n xs := fun h h1 h2 => owns_fr h f (fun k hk => by
    obtain ⟨cs, hc⟩ := owns_blk h hk
    exact nS hc h1 h2)
  refine ⟨hr, s.ok.setQ _, own, o s.lown (by decide) (by decide), o s.hown (by decide) (by decide), ?_, ?_, s.rr, (f.block _ (lt_of_block s.acts) (nS s.acts (by decide) (by decide))).trans s.acts, (f.block _ (lt_of_block s.fired) (nS s.fired (by decide) (by decide))).trans s.fired, s.hF⟩
  · intro l x hx
    refine (s.ring l x hx).fr f (fun g' hg' e => ?_)
    obtain ⟨_, cs, hc⟩ := (s.ring l x hx).lt hg'
    rcases e with e | e
    · exact ty_ne hc s.run (by decide) e
    · exact s.qr l x g' hx hg' e
  · intro l x g' hx hg' e
    simp [Value.ownBlock] at e
    subst e
    rcases gw with h | h
    · exact s.qr l x g hx hg' h
    · obtain ⟨_, cs, hc⟩ := (s.ring l x hx).lt hg'
      have := lt_of_block hc
      omega
theorem St8.lane {lb n cap k : Nat} (s : St8 A ab R since Ab F acs rc qv lv hv w b q Ls H) (hlv : lv = .slice (some ⟨lb, 0, none⟩) n cap) (hn : n = Ls.length) {l : Nat} {x : Lane} (hx : Ls[l]? = some x) {rv' : Value} (hring : RingAt A ab R w' rv' (x.2.2 ++ [k]))
    (own : w'.ownsRow R 100 4 (.slice (some ⟨lb, 0, none⟩) n cap) n (lanesRow (Ls.set l (x.1, rv', x.2.2 ++ [k])))) (gw : ∀ g, rv'.ownBlock = some g → x.2.1.ownBlock = some g ∨ w.heap.size ≤ g) (f : Fr (fun j => j = lb ∨ x.2.1.ownBlock = some j) w w') :
    St8 A ab R since Ab F acs rc qv lv hv w' b q (Ls.set l (x.1, rv', x.2.2 ++ [k])) H := by
  obtain ⟨lcs, hlb⟩ := owns_blk s.lown (g := lb) (by rw [hlv]; rfl)
  have nS : ∀ {j : Nat} {cs : Array Value} {t : TypeId}, w.heap[j]? = some (.cells cs t) → t ≠ 100 → t ≠ 112 → ¬ (j = lb ∨ x.2.1.ownBlock = some j) := by
    intro j cs t hj h1 h2 h
    rcases h with h | h
    · exact ty_ne hj hlb h1 h
    · obtain ⟨_, cs', hc⟩ := (s.ring l x hx).lt h
      exact ty_ne hj hc h2 rfl
  have gs := get_set_lane Ls l x (x.1, rv', x.2.2 ++ [k]) hx
  have low : ∀ {j : Nat} {y : Lane} {g : Nat}, Ls[j]? = some y → y.2.1.ownBlock = some g → g < w.heap.size := fun hy hg => by
    obtain ⟨_, cs, hc⟩ := (s.ring _ _ hy).lt hg
    exact lt_of_block hc
  refine ⟨(f.block _ (lt_of_block s.run) (nS s.run (by decide) (by decide))).trans s.run, s.ok, ?_, ?_, ?_, ?_, ?_, ?_, (f.block _ (lt_of_block s.acts) (nS s.acts (by decide) (by decide))).trans s.acts, (f.block _ (lt_of_block s.fired) (nS s.fired (by decide) (by decide))).trans s.fired, s.hF⟩
  · refine owns_fr s.qown f (fun j hj e => ?_)
    obtain ⟨cs, hc⟩ := owns_blk s.qown hj
    rcases e with e | e
    · exact ty_ne hc hlb (by decide) e
    · exact s.qr l x j hx e hj
  · rw [List.length_set, ← hn, hlv]; exact own
  · refine owns_fr s.hown f (fun j hj => ?_)
    obtain ⟨cs, hc⟩ := owns_blk s.hown hj
    exact nS hc (by decide) (by decide)
  · intro j y hy
    rw [gs] at hy
    by_cases e : j = l
    · rw [if_pos e] at hy
      cases hy
      exact hring
    · rw [if_neg e] at hy
      refine (s.ring j y hy).fr f (fun g hg h => ?_)
      obtain ⟨_, cs, hc⟩ := (s.ring j y hy).lt hg
      rcases h with h | h
      · exact ty_ne hc hlb (by decide) h
      · exact s.rr l j x y g hx hy (Ne.symm e) h hg
  · intro j y g hy hg
    rw [gs] at hy
    by_cases e : j = l
    · rw [if_pos e] at hy
      cases hy
      rcases gw g hg with h | h
      · exact s.qr l x g hx h
      · intro hq
        obtain ⟨cs, hc⟩ := owns_blk s.qown hq
        have := lt_of_block hc
        omega
    · rw [if_neg e] at hy
      exact s.qr j y g hy hg
  · intro j j' y y' g hy hy' hne hg
    rw [gs] at hy hy'
    by_cases e : j = l
    · rw [if_pos e] at hy
      cases hy
      rw [if_neg (fun e' => hne (e.trans e'.symm))] at hy'
      rcases gw g hg with h | h
      · exact s.rr l j' x y' g hx hy' (by omega) h
      · intro h'
        have := low hy' h'
        omega
    · rw [if_neg e] at hy
      by_cases e' : j' = l
      · rw [if_pos e'] at hy'
        cases hy'
        intro h'
        rcases gw g h' with h | h
        · exact s.rr j l y x g hy hx e hg h
        · have := low hy hg
          omega
      · rw [if_neg e'] at hy'
        exact s.rr j j' y y' g hy hy' hne hg
/-- The row of heads turns, or is laid anew. -/
theorem St8.heads (s : St8 A ab R since Ab F acs rc qv lv hv w b q Ls H) {rc' : Array Value} {hv' : Value} {H' : List Nat} (own : w'.ownsRow R 3 1 hv' H'.length (ints H')) (hr : w'.heap[R]? = some (.cells rc' 96)) (ok : RunOk rc' since qv b lv hv')
    (gw : ∀ g, hv'.ownBlock = some g → hv.ownBlock = some g ∨ w.heap.size ≤ g) (f : Fr (fun j => j = R ∨ hv.ownBlock = some j) w w') : St8 A ab R since Ab F acs rc' qv lv hv' w' b q Ls H' := by
  have nS : ∀ {j : Nat} {cs : Array Value} {t : TypeId}, w.heap[j]? = some (.cells cs t) → t ≠ 96 → t ≠ 3 → ¬ (j = R ∨ hv.ownBlock = some j) := by
    intro j cs t hj h1 h2 h
    rcases h with h | h
    · exact ty_ne hj s.run h1 h
    · obtain ⟨cs', hc⟩ := owns_blk s.hown h
      exact ty_ne hj hc h2 rfl
  have o : ∀ {e : TypeId} {size n : Nat} {v : Value} {xs : List Value}, w.ownsRow R e size v n xs → e ≠ 96 → e ≠ 3 → w'.ownsRow R e size v n xs := fun h h1 h2 => owns_fr h f (fun k hk => by
    obtain ⟨cs, hc⟩ := owns_blk h hk
    exact nS hc h1 h2)
  refine ⟨hr, ok, o s.qown (by decide) (by decide), o s.lown (by decide) (by decide), own, ?_, s.qr, s.rr, (f.block _ (lt_of_block s.acts) (nS s.acts (by decide) (by decide))).trans s.acts, (f.block _ (lt_of_block s.fired) ?_).trans s.fired, ?_⟩
  · intro l x hx
    refine (s.ring l x hx).fr f (fun g' hg' => ?_)
    obtain ⟨_, cs, hc⟩ := (s.ring l x hx).lt hg'
    exact nS hc (by decide) (by decide)
  · intro h
    rcases h with h | h
    · exact ty_ne s.fired s.run (by decide) h
    · exact s.hF h
  · intro h
    rcases gw F h with h | h
    · exact s.hF h
    · have := lt_of_block s.fired
      omega
theorem St8.seen {span : Int} (s : St8 A ab R since Ab F acs rc qv lv hv w b q Ls H) (h : SeenPost R R span since qv lv hv b Ls w w') : ∃ rc' lv' Ls', St8 A ab R since Ab F acs rc' qv lv' hv w' b q Ls' H ∧ (Ls' = Ls ∨ (Ls' = Ls ++ [(span, .slice none 0 0, [])] ∧ Ls.length < 8)) ∧ Fr (fun j => R ≤ j) w w' := by
  obtain ⟨rc', lv', Ls', hr, ok, own, hL, gw, f⟩ := h
  have nS : ∀ {j : Nat} {cs : Array Value} {t : TypeId}, w.heap[j]? = some (.cells cs t) → t ≠ 96 → t ≠ 100 → ¬ (j = R ∨ lv.ownBlock = some j) := by
    intro j cs t hj h1 h2 h
    rcases h with h | h
    · exact ty_ne hj s.run h1 h
    · obtain ⟨cs', hc⟩ := owns_blk s.lown h
      exact ty_ne hj hc h2 rfl
  have o : ∀ {e : TypeId} {size n : Nat} {v : Value} {xs : List Value}, w.ownsRow R e size v n xs → e ≠ 96 → e ≠ 100 → w'.ownsRow R e size v n xs := fun h h1 h2 => owns_fr h f (fun k hk => by
    obtain ⟨cs, hc⟩ := owns_blk h hk
    exact nS hc h1 h2)
  have old : ∀ (l : Nat) (x : Lane), Ls'[l]? = some x → Ls[l]? = some x ∨ x = (span, .slice none 0 0, []) := by
    intro l x hx
    rcases hL with rfl | ⟨rfl, _⟩
    · exact .inl hx
    · by_cases hl : l < Ls.length
      · rw [List.getElem?_append_left hl] at hx; exact .inl hx
      · rw [List.getElem?_append_right (by omega)] at hx
        have hz : l - Ls.length = 0 := by
          have := (List.getElem?_eq_some_iff.1 hx).1
          simp at this; omega
        rw [hz] at hx
        simp at hx
        exact .inr hx.symm
  refine ⟨rc', lv', Ls', ⟨hr, ok, o s.qown (by decide) (by decide), own, o s.hown (by decide) (by decide), ?_, ?_, ?_, (f.block _ (lt_of_block s.acts) (nS s.acts (by decide) (by decide))).trans s.acts, (f.block _ (lt_of_block s.fired) (nS s.fired (by decide) (by decide))).trans s.fired, s.hF⟩, hL, ?_⟩
  · intro l x hx
    rcases old l x hx with h | rfl
    · refine (s.ring l x h).fr f (fun g' hg' => ?_)
      obtain ⟨_, cs, hc⟩ := (s.ring l x h).lt hg'
      exact nS hc (by decide) (by decide)
    · exact .inl ⟨rfl, rfl⟩
  · intro l x g hx hg
    rcases old l x hx with h | rfl
    · exact s.qr l x g h hg
    · simp [Value.ownBlock] at hg
  · intro l l' x x' g hx hx' hne hg
    rcases old l x hx with h | rfl
    · rcases old l' x' hx' with h' | rfl
      · exact s.rr l l' x x' g h h' hne hg
      · simp [Value.ownBlock]
    · simp [Value.ownBlock] at hg
  · refine f.mono (fun j _ h => ?_)
    rcases h with h | h
    · omega
    · exact (s.lown.lt j h).1
end
end Go.Proofs.Ybulkanyc
