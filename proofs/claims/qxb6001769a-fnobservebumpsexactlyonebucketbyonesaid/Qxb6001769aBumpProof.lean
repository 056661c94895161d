/-
  'Rows.FnObserveBumpsExactlyOneBucketByOneSaid' PROVED: the row over the walks.
-/
import Derived.Test.Qxb6001769aOpen
import Derived.Test.Qxb6001769aBump
import Derived.Test.Qxb6001769aHead
namespace Go.Proofs.Qxb6001769a
open Go.ChangeShapes Go.WideShapes Go.ChangeAt Go.RowKit
set_option linter.unusedVariables false

set_option maxRecDepth 100000 in
theorem lifted5 (os : Os) (started : os.Started) (H : Type) (enc : TypeId × Value → H) :
    ReturnsInHanded {} Try.checked os 5 .any (Rows.fnObserveBumpsExactlyOneBucketByOneSpec.pre6 enc Try.prog Try.f5 Rows.fnObserveBumpsExactlyOneBucketByOneRow.domain false) (Rows.fnObserveBumpsExactlyOneBucketByOneSpec.post enc Try.prog Try.f5 false true false false) := by
  refine returnsInHanded_of_change (C := Try.checked) own started (by kernel_rfl) Try.func5
    (ChangeSpec.witness6 (enc := enc) (C := Try.checked) false ⟨#[], #[.slice none 0 0, .slice none 0 0, .slice none 0 0], []⟩ 8 (by kernel_rfl) (by kernel_rfl) (by kernel_rfl) (by kernel_rfl)) ?_
  intro W base args ds gs before hval0 hW hcnd _
  have hval : ∀ (j : Nat) t v, Try.f5.params[j]? = some t → args[j]? = some v → Value.okWide Try.prog W .any base t v := hval0
  have hW' := hW
  obtain ⟨p, q, hA0, hV, rfl, hfz, hnd⟩ := hW
  have hA : DataW.TrodAll enc Try.prog W 0 (fun _ => true) true Try.f5.params.toList args.toList ds p := hA0
  rw [Try.params5] at hA hval
  obtain ⟨v0, vs0, d0, ds0, p0, q0, hargs, rfl, rfl, h0, r0⟩ := trodAll_cons hA
  obtain ⟨v1, vs1, d1, ds1, p1, q1, rfl, rfl, rfl, h1, r1⟩ := trodAll_cons r0
  obtain ⟨v2, vs2, d2, ds2, p2, q2, rfl, rfl, rfl, h2, r2⟩ := trodAll_cons r1
  obtain ⟨rfl, rfl, rfl⟩ := trodAll_nil r2
  obtain rfl : args = #[v0, v1, v2] := by cases args; simp_all
  obtain ⟨rfl, rfl⟩ := trodVars_none hV
  obtain ⟨a0, len0, cap0, rfl⟩ := okWide_slice Try.underlying22 (hval 0 22 v0 rfl rfl)
  obtain ⟨a1, len1, cap1, rfl⟩ := okWide_slice Try.underlying23 (hval 1 23 v1 rfl rfl)
  obtain ⟨a2, len2, cap2, rfl⟩ := okWide_slice Try.underlying22 (hval 2 22 v2 rfl rfl)
  have lt0 : ∀ x ∈ p0, x.block < W.heap.size := by obtain ⟨m, hm⟩ := h0; exact DataW.trod_lt m _ _ _ hm
  have lt1 : ∀ x ∈ p1, x.block < W.heap.size := by obtain ⟨m, hm⟩ := h1; exact DataW.trod_lt m _ _ _ hm
  have lt2 : ∀ x ∈ p2, x.block < W.heap.size := by obtain ⟨m, hm⟩ := h2; exact DataW.trod_lt m _ _ _ hm
  obtain ⟨X, e1, e2⟩ : ∃ X : Nat → Nat, Sl W a0 len0 (fun i => Value.float .f64 (X i)) ∧ (a0 = none → len0 = 0 ∧ cap0 = 0) := by
    obtain ⟨fuel, hf⟩ := h0; exact open_fl hf
  obtain ⟨C, f1, f2, f3⟩ : ∃ C : Nat → Int, Sl W a1 len1 (fun i => Value.int .u64 (C i)) ∧ (a1 = none → len1 = 0 ∧ cap1 = 0) ∧ ∀ i, 0 ≤ C i ∧ C i ≤ 18446744073709551615 := by
    obtain ⟨fuel, hf⟩ := h1; exact open_u64 hf
  obtain ⟨V, g1, g2⟩ : ∃ X : Nat → Nat, Sl W a2 len2 (fun i => Value.float .f64 (X i)) ∧ (a2 = none → len2 = 0 ∧ cap2 = 0) := by
    obtain ⟨fuel, hf⟩ := h2; exact open_fl hf
  clear hA0 hval0
  refine (bump_main a0 a1 a2 len0 cap0 len1 cap1 len2 cap2 X V C W e1 f1 g1 g2 f3).mono fun e W' ⟨he, bel⟩ => ?_
  subst he
  exact ⟨_, rfl, _, _, _, [], _, [], hW', trodAll_mk1 (shut_bool Try.underlying4 _),
    (trodAll_cons_mk (Below.trod laidOut (by kernel_rfl) (of_decide_eq_true (by kernel_rfl)) h0 bel lt0)
      (trodAll_cons_mk (Below.trod laidOut (by kernel_rfl) (of_decide_eq_true (by kernel_rfl)) h1 bel lt1)
        (trodAll_cons_mk (Below.trod laidOut (by kernel_rfl) (of_decide_eq_true (by kernel_rfl)) h2 bel lt2) trodAll_mk0))), rfl, bel.frame _, fun h => by cases h⟩

/-- The row's closed facts: the three that hang on the dump's head are paid ahead (Qxb6001769aHead). -/
theorem facts5 : joinedFacts Try.prog 5 Try.f5 Rows.fnObserveBumpsExactlyOneBucketByOneSpec Rows.fnObserveBumpsExactlyOneBucketByOneRow = true := by
  unfold joinedFacts
  rw [mayEnterIs, liftsIs, makeIs]
  kernel_rfl

theorem over5 : Rows.fnObserveBumpsExactlyOneBucketByOneRow.holds Try.pinned (OpenSpec.ofChange Rows.fnObserveBumpsExactlyOneBucketByOneSpec) :=
  OpenClaim.holds_of_wide 5 Try.f5 rfl rfl rfl rfl rfl rfl rfl ⟨rfl, rfl, rfl, rfl, rfl⟩ rfl rfl rfl rfl rfl (by kernel_rfl) Try.func5 facts5
    (of_decide_eq_true (by kernel_rfl)) (by unfold Func.isWrapper; first | (rw [if_pos (by decide +kernel)]; kernel_rfl) | (rw [if_neg (by decide +kernel)]; exact ⟨rfl, rfl⟩))
    (fun os started H enc _ => lifted5 os started H enc)

/-- THE STATEMENT -/
theorem fnObserveBumps_proved : Rows.FnObserveBumpsExactlyOneBucketByOneSaid := over5
end Go.Proofs.Qxb6001769a
