/-
  Seat b6001769a: how a slice of floats and a slice of uint64 that came in are opened.
-/
import Derived.Test.Qxb6001769aClones
import Derived.ProofKit
import Derived.OpenShut
import Derived.ShutString
import Derived.ChangeOld
import Derived.Deep.Grids
namespace Go.Proofs.Qxb6001769a
open Go.ChangeShapes Go.WideShapes Go.ChangeAt Go.RowKit

theorem own : ownKnob Try.prog.godebug = none := by kernel_rfl
theorem laidOut : laidOutB Try.prog = true := by kernel_rfl

theorem sl_of {w : World} {x : Addr} {n : Nat} {f : Nat → Value} (h : ∀ i, i < n → w.cell? (x.add i) = some (f i)) : Sl w (some x) n f := by
  intro i hi
  obtain ⟨b, o, sp⟩ := x
  have hs : sp = none := by simpa [Addr.add] using World.cell?_spot (h 0 (by omega))
  subst hs
  exact ⟨b, o, rfl, by rw [← add_plain]; exact h i hi⟩

theorem trod_f64 {H : Type} {enc : TypeId × Value → H} {P : Program} {W : World} {base : Nat} {sp : Nat → Bool} {held : Bool} {t : TypeId} {fuel : Nat} {v : Value} {x : DataW H × List MemPlace} (ht : P.underlying t = some (.float .f64))
    (h : DataW.trod enc P W base sp held fuel t [v] = some x) : ∃ b, v = .float .f64 b := by
  cases fuel with
  | zero => simp [DataW.trod] at h
  | succ n =>
    unfold DataW.trod at h
    rw [ht] at h
    cases v <;> simp_all

/-- A float's bits. -/
def bitsOf : Value → Nat
  | .float _ b => b
  | _ => 0

theorem open_fl {H : Type} {enc : TypeId × Value → H} {W : World} {a : Option Addr} {len cap fuel : Nat} {x : DataW H × List MemPlace}
    (hf : DataW.trod enc Try.prog W 0 (fun _ => true) true fuel 22 [.slice a len cap] = some x) :
    ∃ X : Nat → Nat, Sl W a len (fun i => Value.float .f64 (X i)) ∧ (a = none → len = 0 ∧ cap = 0) := by
  rcases Go.Deep.open_slice1 Try.underlying22 (by kernel_rfl) hf with ⟨hcs, _⟩ | ⟨y, l, c, m, n, V, D, Pl, hcs, _, hl, hm, hmm, _, hx⟩
  · simp at hcs
    obtain ⟨rfl, rfl, rfl⟩ := hcs
    exact ⟨fun _ => 0, fun i hi => absurd hi (Nat.not_lt_zero i), fun _ => ⟨rfl, rfl⟩⟩
  · simp at hcs
    obtain ⟨rfl, rfl, rfl⟩ := hcs
    simp only [if_true] at hmm
    subst hmm
    refine ⟨fun i => bitsOf (V i), sl_of fun i hi => ?_, fun h => by simp at h⟩
    obtain ⟨h1, h2⟩ := hx i (by omega)
    obtain ⟨b, hb⟩ := trod_f64 Try.underlying24 h2
    rw [h1]
    show _ = some (Value.float .f64 (bitsOf (V i)))
    rw [hb]
    rfl

theorem open_u64 {H : Type} {enc : TypeId × Value → H} {W : World} {a : Option Addr} {len cap fuel : Nat} {x : DataW H × List MemPlace}
    (hf : DataW.trod enc Try.prog W 0 (fun _ => true) true fuel 23 [.slice a len cap] = some x) :
    ∃ C : Nat → Int, Sl W a len (fun i => Value.int .u64 (C i)) ∧ (a = none → len = 0 ∧ cap = 0) ∧ ∀ i, 0 ≤ C i ∧ C i ≤ 18446744073709551615 := by
  rcases open_ints Try.underlying23 Try.underlying34 (by kernel_rfl) hf with ⟨hcs, _⟩ | ⟨x, l, c, zs, hcs, _, hl, hm, hz, _, hcell, hwz⟩
  · simp at hcs
    obtain ⟨rfl, rfl, rfl⟩ := hcs
    exact ⟨fun _ => 0, fun i hi => absurd hi (Nat.not_lt_zero i), fun _ => ⟨rfl, rfl⟩, fun _ => by simp⟩
  · simp at hcs
    obtain ⟨rfl, rfl, rfl⟩ := hcs
    have hz' : zs.length = cap := by simpa using hz
    refine ⟨fun i => zs.getD i 0, sl_of fun i hi => hcell i (by omega), fun h => by simp at h, fun i => ?_⟩
    by_cases hi : i < zs.length
    · exact bounds_u64 (hwz (zs.getD i 0) (by rw [List.getD_eq_getElem?_getD, List.getElem?_eq_getElem hi]; simp))
    · show 0 ≤ zs.getD i 0 ∧ zs.getD i 0 ≤ _
      rw [List.getD_eq_getElem?_getD, List.getElem?_eq_none (by omega)]; simp

end Go.Proofs.Qxb6001769a
