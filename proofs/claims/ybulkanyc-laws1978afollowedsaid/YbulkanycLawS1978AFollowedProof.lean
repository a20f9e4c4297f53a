/-
  THE PROOF OF 'Rows.LawS1978AFollowedSaid'.
-/
import Derived.Test.YbulkanycRows
import Derived.Test.YbulkanycFollowP
import Derived.WalkKit
import Derived.ProofKit
import Derived.OpenShut
import Derived.ShutString
import Derived.ChangeOld
import Derived.Below
namespace Go.Proofs.Ybulkanyc.lawS1978AFollowed
open Go.ChangeShapes Go.WideShapes Go.ChangeAt Go.RowKit
open Go.ChangeMaps (open_string shut_string)
set_option linter.unusedVariables false

theorem own : ownKnob Yba.prog.godebug = none := by kernel_rfl
theorem laidOut : laidOutB Yba.prog = true := by kernel_rfl

/-- WHAT THE WALK IS TOLD OF A SLICE OF INTEGERS THAT CAME IN: it is nil; or it leads to a row of 'cap' cells, the numbers 'zs' (the first 'len' are its elements, the rest its spare room), each fitting its kind. -/
def IsRow (k : IntKind) (w : World) (a : Option Addr) (len cap : Nat) (zs : List Int) : Prop :=
  (a = none ∧ len = 0 ∧ cap = 0 ∧ zs = []) ∨
  ∃ x, a = some x ∧ len ≤ cap ∧ cap ≤ maxLen ∧ zs.length = cap ∧ (∀ i, i < zs.length → w.cell? (x.add i) = some (.int k (zs.getD i 0))) ∧ ∀ n ∈ zs, (Lit.int k n).wf = true

theorem wf_u8 {x : Int} (h : (Lit.int .u8 x).wf = true) : 0 ≤ x ∧ x ≤ 255 := by
  have e1 : IntKind.u8.min = 0 := rfl
  have e2 : IntKind.u8.max = 255 := rfl
  simp [Lit.wf, e1, e2] at h
  omega
theorem wf_i16 {x : Int} (h : (Lit.int .i16 x).wf = true) : -32768 ≤ x ∧ x ≤ 32767 := by
  have e1 : IntKind.i16.min = -32768 := rfl
  have e2 : IntKind.i16.max = 32767 := rfl
  simp [Lit.wf, e1, e2] at h
  omega
theorem getD_all {p : Int → Prop} (zs : List Int) (h : ∀ n ∈ zs, p n) (h0 : p 0) (i : Nat) : p (zs.getD i 0) := by
  by_cases hi : i < zs.length
  · have e : zs.getD i 0 = zs[i] := by simp [List.getD, hi]
    rw [e]
    exact h _ (List.getElem_mem hi)
  · have e : zs.getD i 0 = 0 := by simp [List.getD, hi]
    rw [e]
    exact h0
theorem row_get {k : IntKind} {w : World} {a : Option Addr} {len cap : Nat} {zs : List Int} (h : IsRow k w a len cap zs) (i : Nat) (hi : i < len) : ∃ x, a = some x ∧ w.cell? (x.add i) = some (.int k (zs.getD i 0)) := by
  rcases h with ⟨_, rfl, _, _⟩ | ⟨x, rfl, h1, h2, h3, h4, h5⟩
  · omega
  · exact ⟨x, rfl, h4 i (by omega)⟩
theorem row_all {k : IntKind} {w : World} {a : Option Addr} {len cap : Nat} {zs : List Int} (h : IsRow k w a len cap zs) : ∀ n ∈ zs, (Lit.int k n).wf = true := by
  rcases h with ⟨_, _, _, rfl⟩ | ⟨x, _, _, _, _, _, h5⟩
  · intro n hn; cases hn
  · exact h5

set_option maxRecDepth 20000 in
/-- A long script: true at once. -/
theorem long (a0 : Int) (a1 : Option Addr) (len1 cap1 : Nat) (a2 : Option Addr) (len2 cap2 : Nat) (a3 : Bool) (a4 : Int) (w : World) (hl : 1024 < len2) :
    Calls Yba.prog 4 #[.int .u8 a0, .slice a1 len1 cap1, .slice a2 len2 cap2, .bool a3, .int .i16 a4] w fun e w' => e = .returned (.bool true) ∧ Below w.heap.size w w' := by
  have hl2 : (1024 : Int) < (len2 : Int) := by omega
  go_enter Yba.func4, Yba.ntmps4
  go_wp2_with fail
  go_ret
  exact ⟨rfl, Below.refl _ _⟩

/-- THE WALK: the Go text returns true, and writes nothing that was there. -/
theorem walk (a0 : Int) (a1 : Option Addr) (len1 cap1 : Nat) (z1 : List Int) (a2 : Option Addr) (len2 cap2 : Nat) (z2 : List Int) (a3 : Bool) (a4 : Int) (w : World) (w0 : (Lit.int .u8 a0).wf = true) (w1 : IsRow .i16 w a1 len1 cap1 z1) (w2 : IsRow .u8 w a2 len2 cap2 z2) (w4 : (Lit.int .i16 a4).wf = true) :
    Calls Yba.prog 4 #[.int .u8 a0, .slice a1 len1 cap1, .slice a2 len2 cap2, .bool a3, .int .i16 a4] w fun e w' => e = .returned (.bool true) ∧ Below w.heap.size w w' := by
  by_cases hl : 1024 < len2
  · exact long a0 a1 len1 cap1 a2 len2 cap2 a3 a4 w hl
  · obtain ⟨b1, b2⟩ := wf_u8 w0
    obtain ⟨b3, b4⟩ := wf_i16 w4
    have o1 : ∀ i, -32768 ≤ z1.getD i 0 ∧ z1.getD i 0 ≤ 32767 := getD_all (p := fun x => -32768 ≤ x ∧ x ≤ 32767) z1 (fun n hn => wf_i16 (row_all w1 n hn)) (by omega)
    have o2 : ∀ i, 0 ≤ z2.getD i 0 ∧ z2.getD i 0 ≤ 255 := getD_all (p := fun x => 0 ≤ x ∧ x ≤ 255) z2 (fun n hn => wf_u8 (row_all w2 n hn)) (by omega)
    refine follow_p a0 a4 (a0 % 8).toNat len2 a3 a1 a2 len1 cap1 cap2 (fun i => if i < len1 then z1.getD i 0 else 0) w (by omega) (by omega) (by omega) b1 b2 ?_ ?_ ?_ b3 b4 (fun j => (z2.getD j 0).toNat) ?_ ?_ (make_files _ (by omega))
    · intro i hi
      obtain ⟨x, e, hx⟩ := row_get w1 i hi
      exact ⟨x, e, by rw [hx, if_pos hi]⟩
    · intro i hi
      exact if_neg hi
    · intro i
      show -32768 ≤ (if i < len1 then z1.getD i 0 else 0) ∧ (if i < len1 then z1.getD i 0 else 0) ≤ 32767
      split
      · exact o1 i
      · omega
    · intro j hj
      obtain ⟨x, e, hx⟩ := row_get w2 j hj
      refine ⟨x, e, ?_⟩
      rw [hx]
      have := o2 j
      congr 2
      show z2.getD j 0 = ((z2.getD j 0).toNat : Int)
      omega
    · intro j
      have := o2 j
      show (z2.getD j 0).toNat ≤ 255
      omega

/-! ### THE ROW's STEP: WRITTEN OUT: LEAVE IT -/
set_option maxRecDepth 100000 in
theorem lifted (os : Os) (started : os.Started) (H : Type) (enc : TypeId × Value → H) :
    ReturnsInHanded {} Yba.checked os 4 .any (Rows.lawS1978AFollowedSpec.pre6 enc Yba.prog Yba.f4 Rows.lawS1978AFollowedRow.domain false) (Rows.lawS1978AFollowedSpec.post enc Yba.prog Yba.f4 false true false false) := by
  refine returnsInHanded_of_change (C := Yba.checked) own started (by kernel_rfl) Yba.func4
    (ChangeSpec.witness6 (enc := enc) (C := Yba.checked) false ⟨#[], #[.int .u8 0, .slice none 0 0, .slice none 0 0, .bool false, .int .i16 0], []⟩ 8 (by kernel_rfl) (by kernel_rfl) (by kernel_rfl) (by kernel_rfl)) ?_
  intro W base args ds gs before hval0 hW hcnd _
  have hval : ∀ (j : Nat) t v, Yba.f4.params[j]? = some t → args[j]? = some v → Value.okWide Yba.prog W .any base t v := hval0
  have hW' := hW
  obtain ⟨p, q, hA0, hV, rfl, hfz, hnd⟩ := hW
  have hA : DataW.TrodAll enc Yba.prog W 0 (fun _ => true) true Yba.f4.params.toList args.toList ds p := hA0
  rw [Yba.params4] at hA hval
  obtain ⟨v0, vs0, d0, ds0, p0, q0, hargs, rfl, rfl, h0, r0⟩ := trodAll_cons hA
  obtain ⟨v1, vs1, d1, ds1, p1, q1, rfl, rfl, rfl, h1, r1⟩ := trodAll_cons r0
  obtain ⟨v2, vs2, d2, ds2, p2, q2, rfl, rfl, rfl, h2, r2⟩ := trodAll_cons r1
  obtain ⟨v3, vs3, d3, ds3, p3, q3, rfl, rfl, rfl, h3, r3⟩ := trodAll_cons r2
  obtain ⟨v4, vs4, d4, ds4, p4, q4, rfl, rfl, rfl, h4, r4⟩ := trodAll_cons r3
  obtain ⟨rfl, rfl, rfl⟩ := trodAll_nil r4
  obtain rfl : args = #[v0, v1, v2, v3, v4] := by cases args; simp_all
  obtain ⟨rfl, rfl⟩ := trodVars_none hV
  obtain ⟨a0, rfl, rfl, rfl, w0⟩ := open_int Yba.underlying5 (hval 0 5 v0 rfl rfl) h0
  obtain ⟨a1, len1, cap1, rfl⟩ := okWide_slice Yba.underlying75 (hval 1 75 v1 rfl rfl)
  have k1 := h1
  have lt1 : ∀ x ∈ p1, x.block < W.heap.size := by obtain ⟨m, hm⟩ := k1; exact DataW.trod_lt m _ _ _ hm
  obtain ⟨z1, w1⟩ : ∃ zs, IsRow .i16 W a1 len1 cap1 zs := by
    obtain ⟨fuel, hf⟩ := h1
    rcases open_ints Yba.underlying75 Yba.underlying22 (by kernel_rfl) hf with ⟨hcs, _⟩ | ⟨x, l, c, zs, hcs, _, hl, hm, hz, _, hcell, hwz⟩
    · simp [Value.cells] at hcs
      obtain ⟨rfl, rfl, rfl⟩ := hcs
      exact ⟨[], .inl ⟨rfl, rfl, rfl, rfl⟩⟩
    · simp [Value.cells] at hcs
      obtain ⟨rfl, rfl, rfl⟩ := hcs
      exact ⟨zs, .inr ⟨_, rfl, hl, hm, by simpa using hz, hcell, hwz⟩⟩
  obtain ⟨a2, len2, cap2, rfl⟩ := okWide_slice Yba.underlying76 (hval 2 76 v2 rfl rfl)
  have k2 := h2
  have lt2 : ∀ x ∈ p2, x.block < W.heap.size := by obtain ⟨m, hm⟩ := k2; exact DataW.trod_lt m _ _ _ hm
  obtain ⟨z2, w2⟩ : ∃ zs, IsRow .u8 W a2 len2 cap2 zs := by
    obtain ⟨fuel, hf⟩ := h2
    rcases open_ints Yba.underlying76 Yba.underlying5 (by kernel_rfl) hf with ⟨hcs, _⟩ | ⟨x, l, c, zs, hcs, _, hl, hm, hz, _, hcell, hwz⟩
    · simp [Value.cells] at hcs
      obtain ⟨rfl, rfl, rfl⟩ := hcs
      exact ⟨[], .inl ⟨rfl, rfl, rfl, rfl⟩⟩
    · simp [Value.cells] at hcs
      obtain ⟨rfl, rfl, rfl⟩ := hcs
      exact ⟨zs, .inr ⟨_, rfl, hl, hm, by simpa using hz, hcell, hwz⟩⟩
  obtain ⟨a3, rfl, rfl, rfl⟩ := open_bool Yba.underlying4 (hval 3 4 v3 rfl rfl) h3
  obtain ⟨a4, rfl, rfl, rfl, w4⟩ := open_int Yba.underlying22 (hval 4 22 v4 rfl rfl) h4
  clear hA0 hval0
  refine (walk a0 a1 len1 cap1 z1 a2 len2 cap2 z2 a3 a4 W w0 w1 w2 w4).mono fun e W' ⟨he, bel⟩ => ?_
  subst he
  exact ⟨_, rfl, _, _, _, [], _, [], hW', trodAll_mk1 (shut_bool Yba.underlying4 _), (trodAll_cons_mk (shut_int Yba.underlying5 w0) (trodAll_cons_mk (Below.trod laidOut (by kernel_rfl) (of_decide_eq_true (by kernel_rfl)) k1 bel lt1) (trodAll_cons_mk (Below.trod laidOut (by kernel_rfl) (of_decide_eq_true (by kernel_rfl)) k2 bel lt2) (trodAll_cons_mk (shut_bool Yba.underlying4 _) (trodAll_cons_mk (shut_int Yba.underlying22 w4) trodAll_mk0))))), rfl, bel.frame _, fun h => by cases h⟩

theorem over : Rows.lawS1978AFollowedRow.holds Yba.pinned (OpenSpec.ofChange Rows.lawS1978AFollowedSpec) :=
  OpenClaim.holds_of_wide 4 Yba.f4 rfl rfl rfl rfl rfl rfl rfl ⟨rfl, rfl, rfl, rfl, rfl⟩ rfl rfl rfl rfl rfl (by kernel_rfl) Yba.func4 (by kernel_rfl)
    (of_decide_eq_true (by kernel_rfl)) (by unfold Func.isWrapper; first | (rw [if_pos (by decide +kernel)]; kernel_rfl) | (rw [if_neg (by decide +kernel)]; exact ⟨rfl, rfl⟩))
    (fun os started H enc _ => lifted os started H enc)

/-- ████ THE STATEMENT ████ -/
theorem proved : Rows.LawS1978AFollowedSaid := over
#print axioms proved
end Go.Proofs.Ybulkanyc.lawS1978AFollowed
