/-
  'Rows.FnKeyFromSpecSaid' PROVED: the row over the walks of parts 1 to 6.
-/
import Derived.Test.Qxb6601267aWalk
import Derived.Test.Qxb6601267aHead
import Derived.ProofKit
import Derived.OpenShut
import Derived.ShutString
import Derived.ChangeOld
import Derived.Deep.Grids
namespace Go.Proofs.Qxb6601267a
open Go.ChangeShapes Go.WideShapes Go.ChangeAt Go.RowKit
open Go.ChangeMaps (open_string shut_string)
set_option linter.unusedVariables false

theorem own : ownKnob Try.prog.godebug = none := by kernel_rfl
theorem laidOut : laidOutB Try.prog = true := by kernel_rfl

theorem sl_of {w : World} {x : Addr} {n : Nat} {f : Nat → Value} (h : ∀ i, i < n → w.cell? (x.add i) = some (f i)) : Sl w (some x) n f := by
  intro i hi
  obtain ⟨b, o, sp⟩ := x
  have hs : sp = none := by simpa [Addr.add] using World.cell?_spot (h 0 (by omega))
  subst hs
  exact ⟨b, o, rfl, by rw [← add_plain]; exact h i hi⟩

/-- A slice of unsigned numbers that came in, as the walk wants it. -/
theorem open_u32 {H : Type} {enc : TypeId × Value → H} {W : World} {a : Option Addr} {len cap fuel : Nat} {x : DataW H × List MemPlace}
    (hf : DataW.trod enc Try.prog W 0 (fun _ => true) true fuel 29 [.slice a len cap] = some x) :
    ∃ E : Nat → Nat, Sl W a len (fun i => Value.int .u32 ((E i : Nat) : Int)) ∧ (a = none → len = 0 ∧ cap = 0) ∧ ∀ i, E i < 4294967296 := by
  rcases open_ints Try.underlying29 Try.underlying33 (by kernel_rfl) hf with ⟨hcs, _⟩ | ⟨x, l, c, zs, hcs, _, hl, hm, hz, _, hcell, hwz⟩
  · simp at hcs
    obtain ⟨rfl, rfl, rfl⟩ := hcs
    exact ⟨fun _ => 0, fun i hi => absurd hi (Nat.not_lt_zero i), fun _ => ⟨rfl, rfl⟩, fun _ => by simp⟩
  · simp at hcs
    obtain ⟨rfl, rfl, rfl⟩ := hcs
    have hz' : zs.length = cap := by simpa using hz
    have hb : ∀ i, 0 ≤ zs.getD i 0 ∧ zs.getD i 0 < 4294967296 := by
      intro i
      by_cases hi : i < zs.length
      · have := bounds_u32 (hwz (zs.getD i 0) (by rw [List.getD_eq_getElem?_getD, List.getElem?_eq_getElem hi]; simp))
        omega
      · rw [List.getD_eq_getElem?_getD, List.getElem?_eq_none (by omega)]; simp
    refine ⟨fun i => (zs.getD i 0).toNat, sl_of fun i hi => ?_, fun h => by simp at h, fun i => by have := hb i; show (zs.getD i 0).toNat < _; omega⟩
    rw [hcell i (by omega)]
    have := hb i
    rw [Int.toNat_of_nonneg (by omega)]

theorem open_u64 {H : Type} {enc : TypeId × Value → H} {W : World} {a : Option Addr} {len cap fuel : Nat} {x : DataW H × List MemPlace}
    (hf : DataW.trod enc Try.prog W 0 (fun _ => true) true fuel 30 [.slice a len cap] = some x) :
    ∃ K : Nat → Int, Sl W a len (fun i => Value.int .u64 (K i)) ∧ (a = none → len = 0 ∧ cap = 0) := by
  rcases open_ints Try.underlying30 Try.underlying34 (by kernel_rfl) hf with ⟨hcs, _⟩ | ⟨x, l, c, zs, hcs, _, hl, hm, hz, _, hcell, hwz⟩
  · simp at hcs
    obtain ⟨rfl, rfl, rfl⟩ := hcs
    exact ⟨fun _ => 0, fun i hi => absurd hi (Nat.not_lt_zero i), fun _ => ⟨rfl, rfl⟩⟩
  · simp at hcs
    obtain ⟨rfl, rfl, rfl⟩ := hcs
    have hz' : zs.length = cap := by simpa using hz
    exact ⟨fun i => zs.getD i 0, sl_of fun i hi => hcell i (by omega), fun h => by simp at h⟩

theorem open_bl {H : Type} {enc : TypeId × Value → H} {W : World} {a : Option Addr} {len cap fuel : Nat} {x : DataW H × List MemPlace}
    (hf : DataW.trod enc Try.prog W 0 (fun _ => true) true fuel 31 [.slice a len cap] = some x) :
    ∃ L : Nat → Bool, Sl W a len (fun i => Value.bool (L i)) ∧ (a = none → len = 0 ∧ cap = 0) := by
  rcases Go.Deep.open_bools Try.underlying31 Try.underlying4 (by kernel_rfl) hf with ⟨hcs, _⟩ | ⟨x, l, c, B, hcs, _, hl, hm, _, hcell⟩
  · simp at hcs
    obtain ⟨rfl, rfl, rfl⟩ := hcs
    exact ⟨fun _ => false, fun i hi => absurd hi (Nat.not_lt_zero i), fun _ => ⟨rfl, rfl⟩⟩
  · simp at hcs
    obtain ⟨rfl, rfl, rfl⟩ := hcs
    exact ⟨B, sl_of fun i hi => hcell i (by omega), fun h => by simp at h⟩

set_option maxRecDepth 100000 in
theorem lifted (os : Os) (started : os.Started) (H : Type) (enc : TypeId × Value → H) :
    ReturnsInHanded {} Try.checked os 6 .any (Rows.fnKeyFromSpecSpec.pre6 enc Try.prog Try.f6 Rows.fnKeyFromSpecRow.domain false) (Rows.fnKeyFromSpecSpec.post enc Try.prog Try.f6 false true false false) := by
  refine returnsInHanded_of_change (C := Try.checked) own started (by kernel_rfl) Try.func6
    (ChangeSpec.witness6 (enc := enc) (C := Try.checked) false ⟨#[], #[.string ByteArray.empty, .slice none 0 0, .slice none 0 0, .slice none 0 0, .slice none 0 0, .int .i64 0], []⟩ 8 (by kernel_rfl) (by kernel_rfl) (by kernel_rfl) (by kernel_rfl)) ?_
  intro W base args ds gs before hval0 hW hcnd _
  have hval : ∀ (j : Nat) t v, Try.f6.params[j]? = some t → args[j]? = some v → Value.okWide Try.prog W .any base t v := hval0
  have hW' := hW
  obtain ⟨p, q, hA0, hV, rfl, hfz, hnd⟩ := hW
  have hA : DataW.TrodAll enc Try.prog W 0 (fun _ => true) true Try.f6.params.toList args.toList ds p := hA0
  rw [Try.params6] at hA hval
  obtain ⟨v0, vs0, d0, ds0, p0, q0, hargs, rfl, rfl, h0, r0⟩ := trodAll_cons hA
  obtain ⟨v1, vs1, d1, ds1, p1, q1, rfl, rfl, rfl, h1, r1⟩ := trodAll_cons r0
  obtain ⟨v2, vs2, d2, ds2, p2, q2, rfl, rfl, rfl, h2, r2⟩ := trodAll_cons r1
  obtain ⟨v3, vs3, d3, ds3, p3, q3, rfl, rfl, rfl, h3, r3⟩ := trodAll_cons r2
  obtain ⟨v4, vs4, d4, ds4, p4, q4, rfl, rfl, rfl, h4, r4⟩ := trodAll_cons r3
  obtain ⟨v5, vs5, d5, ds5, p5, q5, rfl, rfl, rfl, h5, r5⟩ := trodAll_cons r4
  obtain ⟨rfl, rfl, rfl⟩ := trodAll_nil r5
  obtain rfl : args = #[v0, v1, v2, v3, v4, v5] := by cases args; simp_all
  obtain ⟨rfl, rfl⟩ := trodVars_none hV
  obtain ⟨s, rfl, rfl, rfl, w0⟩ := open_string Try.underlying9 (hval 0 9 v0 rfl rfl) h0
  obtain ⟨a1, len1, cap1, rfl⟩ := okWide_slice Try.underlying29 (hval 1 29 v1 rfl rfl)
  obtain ⟨a2, len2, cap2, rfl⟩ := okWide_slice Try.underlying29 (hval 2 29 v2 rfl rfl)
  obtain ⟨a3, len3, cap3, rfl⟩ := okWide_slice Try.underlying30 (hval 3 30 v3 rfl rfl)
  obtain ⟨a4, len4, cap4, rfl⟩ := okWide_slice Try.underlying31 (hval 4 31 v4 rfl rfl)
  obtain ⟨a5, rfl, rfl, rfl, w5⟩ := open_int Try.underlying3 (hval 5 3 v5 rfl rfl) h5
  have lt1 : ∀ x ∈ p1, x.block < W.heap.size := by obtain ⟨m, hm⟩ := h1; exact DataW.trod_lt m _ _ _ hm
  have lt2 : ∀ x ∈ p2, x.block < W.heap.size := by obtain ⟨m, hm⟩ := h2; exact DataW.trod_lt m _ _ _ hm
  have lt3 : ∀ x ∈ p3, x.block < W.heap.size := by obtain ⟨m, hm⟩ := h3; exact DataW.trod_lt m _ _ _ hm
  have lt4 : ∀ x ∈ p4, x.block < W.heap.size := by obtain ⟨m, hm⟩ := h4; exact DataW.trod_lt m _ _ _ hm
  obtain ⟨E, e1, e2, e3⟩ : ∃ E : Nat → Nat, Sl W a1 len1 (fun i => Value.int .u32 ((E i : Nat) : Int)) ∧ (a1 = none → len1 = 0 ∧ cap1 = 0) ∧ ∀ i, E i < 4294967296 := by
    obtain ⟨fuel, hf⟩ := h1; exact open_u32 hf
  obtain ⟨A, b1, b2, b3⟩ : ∃ E : Nat → Nat, Sl W a2 len2 (fun i => Value.int .u32 ((E i : Nat) : Int)) ∧ (a2 = none → len2 = 0 ∧ cap2 = 0) ∧ ∀ i, E i < 4294967296 := by
    obtain ⟨fuel, hf⟩ := h2; exact open_u32 hf
  obtain ⟨K, c1, c2⟩ : ∃ K : Nat → Int, Sl W a3 len3 (fun i => Value.int .u64 (K i)) ∧ (a3 = none → len3 = 0 ∧ cap3 = 0) := by
    obtain ⟨fuel, hf⟩ := h3; exact open_u64 hf
  obtain ⟨L, f1, f2⟩ : ∃ L : Nat → Bool, Sl W a4 len4 (fun i => Value.bool (L i)) ∧ (a4 = none → len4 = 0 ∧ cap4 = 0) := by
    obtain ⟨fuel, hf⟩ := h4; exact open_bl hf
  clear hA0 hval0
  refine (walk s a1 a2 a3 a4 len1 cap1 len2 cap2 len3 cap3 len4 cap4 a5 E K A L W e1 e2 e3 b1 b2 b3 c1 c2 f1 f2).mono fun e W' ⟨he, bel⟩ => ?_
  subst he
  exact ⟨_, rfl, _, _, _, [], _, [], hW', trodAll_mk1 (shut_bool Try.underlying4 _),
    (trodAll_cons_mk (shut_string Try.underlying9 w0)
      (trodAll_cons_mk (Below.trod laidOut (by kernel_rfl) (of_decide_eq_true (by kernel_rfl)) h1 bel lt1)
        (trodAll_cons_mk (Below.trod laidOut (by kernel_rfl) (of_decide_eq_true (by kernel_rfl)) h2 bel lt2)
          (trodAll_cons_mk (Below.trod laidOut (by kernel_rfl) (of_decide_eq_true (by kernel_rfl)) h3 bel lt3)
            (trodAll_cons_mk (Below.trod laidOut (by kernel_rfl) (of_decide_eq_true (by kernel_rfl)) h4 bel lt4)
              (trodAll_cons_mk (shut_int Try.underlying3 w5) trodAll_mk0)))))), rfl, bel.frame _, fun h => by cases h⟩

/-- The row's closed facts: the three that hang on the dump's head are paid ahead (Qxb6601267aHead). -/
theorem facts : joinedFacts Try.prog 6 Try.f6 Rows.fnKeyFromSpecSpec Rows.fnKeyFromSpecRow = true := by
  unfold joinedFacts
  rw [mayEnterIs, liftsIs, makeIs]
  kernel_rfl

theorem over : Rows.fnKeyFromSpecRow.holds Try.pinned (OpenSpec.ofChange Rows.fnKeyFromSpecSpec) :=
  OpenClaim.holds_of_wide 6 Try.f6 rfl rfl rfl rfl rfl rfl rfl ⟨rfl, rfl, rfl, rfl, rfl⟩ rfl rfl rfl rfl rfl (by kernel_rfl) Try.func6 facts
    (of_decide_eq_true (by kernel_rfl)) (by unfold Func.isWrapper; first | (rw [if_pos (by decide +kernel)]; kernel_rfl) | (rw [if_neg (by decide +kernel)]; exact ⟨rfl, rfl⟩))
    (fun os started H enc _ => lifted os started H enc)

/-- THE STATEMENT -/
theorem fnKeyFromSpec_proved : Rows.FnKeyFromSpecSaid := over
end Go.Proofs.Qxb6601267a
