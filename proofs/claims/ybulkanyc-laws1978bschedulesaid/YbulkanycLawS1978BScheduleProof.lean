/-
  THE PROOF OF 'Rows.LawS1978BScheduleSaid'.
-/
import Derived.Test.YbulkanycRows
import Derived.Test.YbulkanycSched19
import Derived.Test.YbulkanycSched20
import Derived.WalkKit
import Derived.ProofKit
import Derived.OpenShut
import Derived.ShutString
import Derived.ChangeOld
import Derived.Below
namespace Go.Proofs.Ybulkanyc.lawS1978BSchedule
open Go.ChangeShapes Go.WideShapes Go.ChangeAt Go.RowKit
open Go.ChangeMaps (open_string shut_string)
set_option linter.unusedVariables false

theorem own : ownKnob Yba.prog.godebug = none := by kernel_rfl
theorem laidOut : laidOutB Yba.prog = true := by kernel_rfl

/-- WHAT THE WALK IS TOLD OF A SLICE OF INTEGERS THAT CAME IN: it is nil; or it leads to a row of 'cap' cells, the numbers 'zs' (the first 'len' are its elements, the rest its spare room), each fitting its kind. -/
def IsRow (k : IntKind) (w : World) (a : Option Addr) (len cap : Nat) (zs : List Int) : Prop :=
  (a = none ∧ len = 0 ∧ cap = 0 ∧ zs = []) ∨
  ∃ x, a = some x ∧ len ≤ cap ∧ cap ≤ maxLen ∧ zs.length = cap ∧ (∀ i, i < zs.length → w.cell? (x.add i) = some (.int k (zs.getD i 0))) ∧ ∀ n ∈ zs, (Lit.int k n).wf = true

theorem wf_i8 {x : Int} (h : (Lit.int .i8 x).wf = true) : -128 ≤ x ∧ x ≤ 127 := by
  have e1 : IntKind.i8.min = -128 := rfl
  have e2 : IntKind.i8.max = 127 := rfl
  simp [Lit.wf, e1, e2] at h
  omega
theorem getD_all {p : Int → Prop} (zs : List Int) (h : ∀ n ∈ zs, p n) (h0 : p 0) (i : Nat) : p (zs.getD i 0) := by
  by_cases hi : i < zs.length
  · have e : zs.getD i 0 = zs[i] := by simp [List.getD, hi]
    rw [e]
    exact h _ (List.getElem_mem hi)
  · have e : zs.getD i 0 = 0 := by simp [List.getD, hi]
    rw [e]
    exact h0
theorem row_get {k : IntKind} {w : World} {a : Option Addr} {len cap : Nat} {zs : List Int} (h : IsRow k w a len cap zs) (i : Nat) (hi : i < len) : ∃ x, a = some x ∧ w.cell? (x.add i) = some (.int k (zs.getD i 0)) := by
  rcases h with ⟨_, rfl, _, _⟩ | ⟨x, rfl, h1, h2, h3, h4, h5⟩
  · omega
  · exact ⟨x, rfl, h4 i (by omega)⟩
theorem row_all {k : IntKind} {w : World} {a : Option Addr} {len cap : Nat} {zs : List Int} (h : IsRow k w a len cap zs) : ∀ n ∈ zs, (Lit.int k n).wf = true := by
  rcases h with ⟨_, _, _, rfl⟩ | ⟨x, _, _, _, _, _, h5⟩
  · intro n hn; cases hn
  · exact h5

set_option maxRecDepth 20000 in
/-- A long script: true at once. -/
theorem long (a0 : Int) (a1 : Bool) (a2 : Option Addr) (len2 cap2 : Nat) (w : World) (hl : 512 < len2) :
    Calls Yba.prog 5 #[.int .i64 a0, .bool a1, .slice a2 len2 cap2] w fun e w' => e = .returned (.bool true) ∧ Below w.heap.size w w' := by
  have hl2 : (512 : Int) < (len2 : Int) := by omega
  go_enter Yba.func5, Yba.ntmps5
  go_wp2_with fail
  go_ret
  exact ⟨rfl, Below.refl _ _⟩

/-- THE WALK: the Go text returns true, and writes nothing that was there. -/
theorem walk (a0 : Int) (a1 : Bool) (a2 : Option Addr) (len2 cap2 : Nat) (z2 : List Int) (w : World) (w0 : (Lit.int .i64 a0).wf = true) (w2 : IsRow .i8 w a2 len2 cap2 z2) :
    Calls Yba.prog 5 #[.int .i64 a0, .bool a1, .slice a2 len2 cap2] w fun e w' => e = .returned (.bool true) ∧ Below w.heap.size w w' := by
  by_cases hl : 512 < len2
  · exact long a0 a1 a2 len2 cap2 w hl
  · have o2 : ∀ i, -128 ≤ z2.getD i 0 ∧ z2.getD i 0 ≤ 127 := getD_all (p := fun x => -128 ≤ x ∧ x ≤ 127) z2 (fun n hn => wf_i8 (row_all w2 n hn)) (by omega)
    have hA2 : ∀ j, wrap64 (a0 + (z2.getD j 0).tmod 7) = IntKind.i64.wrap (a0 + (z2.getD j 0).tmod 7) := fun j => by rw [IntKind.wrap_i64, wrap64]
    cases a1
    · exact sched_f a0 a2 len2 cap2 (fun j => z2.getD j 0) (fun j => IntKind.i64.wrap (a0 + (z2.getD j 0).tmod 7)) w (by omega) (fun j hj => row_get w2 j hj) o2 (fun j => rfl) hA2
    · exact sched_t a0 a2 len2 cap2 (fun j => z2.getD j 0) (fun j => IntKind.i64.wrap (a0 + (z2.getD j 0).tmod 7)) w (by omega) (fun j hj => row_get w2 j hj) o2 (fun j => rfl) hA2

/-! ### THE ROW's STEP: WRITTEN OUT: LEAVE IT -/
set_option maxRecDepth 100000 in
theorem lifted (os : Os) (started : os.Started) (H : Type) (enc : TypeId × Value → H) :
    ReturnsInHanded {} Yba.checked os 5 .any (Rows.lawS1978BScheduleSpec.pre6 enc Yba.prog Yba.f5 Rows.lawS1978BScheduleRow.domain false) (Rows.lawS1978BScheduleSpec.post enc Yba.prog Yba.f5 false true false false) := by
  refine returnsInHanded_of_change (C := Yba.checked) own started (by kernel_rfl) Yba.func5
    (ChangeSpec.witness6 (enc := enc) (C := Yba.checked) false ⟨#[], #[.int .i64 0, .bool false, .slice none 0 0], []⟩ 8 (by kernel_rfl) (by kernel_rfl) (by kernel_rfl) (by kernel_rfl)) ?_
  intro W base args ds gs before hval0 hW hcnd _
  have hval : ∀ (j : Nat) t v, Yba.f5.params[j]? = some t → args[j]? = some v → Value.okWide Yba.prog W .any base t v := hval0
  have hW' := hW
  obtain ⟨p, q, hA0, hV, rfl, hfz, hnd⟩ := hW
  have hA : DataW.TrodAll enc Yba.prog W 0 (fun _ => true) true Yba.f5.params.toList args.toList ds p := hA0
  rw [Yba.params5] at hA hval
  obtain ⟨v0, vs0, d0, ds0, p0, q0, hargs, rfl, rfl, h0, r0⟩ := trodAll_cons hA
  obtain ⟨v1, vs1, d1, ds1, p1, q1, rfl, rfl, rfl, h1, r1⟩ := trodAll_cons r0
  obtain ⟨v2, vs2, d2, ds2, p2, q2, rfl, rfl, rfl, h2, r2⟩ := trodAll_cons r1
  obtain ⟨rfl, rfl, rfl⟩ := trodAll_nil r2
  obtain rfl : args = #[v0, v1, v2] := by cases args; simp_all
  obtain ⟨rfl, rfl⟩ := trodVars_none hV
  obtain ⟨a0, rfl, rfl, rfl, w0⟩ := open_int Yba.underlying2 (hval 0 2 v0 rfl rfl) h0
  obtain ⟨a1, rfl, rfl, rfl⟩ := open_bool Yba.underlying4 (hval 1 4 v1 rfl rfl) h1
  obtain ⟨a2, len2, cap2, rfl⟩ := okWide_slice Yba.underlying81 (hval 2 81 v2 rfl rfl)
  have k2 := h2
  have lt2 : ∀ x ∈ p2, x.block < W.heap.size := by obtain ⟨m, hm⟩ := k2; exact DataW.trod_lt m _ _ _ hm
  obtain ⟨z2, w2⟩ : ∃ zs, IsRow .i8 W a2 len2 cap2 zs := by
    obtain ⟨fuel, hf⟩ := h2
    rcases open_ints Yba.underlying81 Yba.underlying108 (by kernel_rfl) hf with ⟨hcs, _⟩ | ⟨x, l, c, zs, hcs, _, hl, hm, hz, _, hcell, hwz⟩
    · simp [Value.cells] at hcs
      obtain ⟨rfl, rfl, rfl⟩ := hcs
      exact ⟨[], .inl ⟨rfl, rfl, rfl, rfl⟩⟩
    · simp [Value.cells] at hcs
      obtain ⟨rfl, rfl, rfl⟩ := hcs
      exact ⟨zs, .inr ⟨_, rfl, hl, hm, by simpa using hz, hcell, hwz⟩⟩
  clear hA0 hval0
  refine (walk a0 a1 a2 len2 cap2 z2 W w0 w2).mono fun e W' ⟨he, bel⟩ => ?_
  subst he
  exact ⟨_, rfl, _, _, _, [], _, [], hW', trodAll_mk1 (shut_bool Yba.underlying4 _), (trodAll_cons_mk (shut_int Yba.underlying2 w0) (trodAll_cons_mk (shut_bool Yba.underlying4 _) (trodAll_cons_mk (Below.trod laidOut (by kernel_rfl) (of_decide_eq_true (by kernel_rfl)) k2 bel lt2) trodAll_mk0))), rfl, bel.frame _, fun h => by cases h⟩

theorem over : Rows.lawS1978BScheduleRow.holds Yba.pinned (OpenSpec.ofChange Rows.lawS1978BScheduleSpec) :=
  OpenClaim.holds_of_wide 5 Yba.f5 rfl rfl rfl rfl rfl rfl rfl ⟨rfl, rfl, rfl, rfl, rfl⟩ rfl rfl rfl rfl rfl (by kernel_rfl) Yba.func5 (by kernel_rfl)
    (of_decide_eq_true (by kernel_rfl)) (by unfold Func.isWrapper; first | (rw [if_pos (by decide +kernel)]; kernel_rfl) | (rw [if_neg (by decide +kernel)]; exact ⟨rfl, rfl⟩))
    (fun os started H enc _ => lifted os started H enc)

/-- ████ THE STATEMENT ████ -/
theorem proved : Rows.LawS1978BScheduleSaid := over
#print axioms proved
end Go.Proofs.Ybulkanyc.lawS1978BSchedule
