/-
  The walks of seat b6601267a, part 6: the law's early returns; the law at every input.
-/
import Derived.Test.Qxb6601267aLaw
namespace Go.Proofs.Qxb6601267a
open Go.RowKit

set_option maxRecDepth 100000 in
set_option maxHeartbeats 2000000 in
theorem law_early (s : ByteArray) (a1 a2 a3 a4 : Option Addr) (n1 c1 n2 c2 n3 c3 n4 c4 : Nat) (D : Int) (w : World)
    (h : ¬ (s.size ≤ 262144 ∧ n1 ≤ 32768 ∧ n2 ≤ 16384 ∧ n3 ≤ 16384 ∧ n4 ≤ 16384 ∧ 0 ≤ D ∧ D ≤ s.size ∧ n2 = n3 ∧ n2 = n4)) :
    Calls Try.prog 6 #[.string s, .slice a1 n1 c1, .slice a2 n2 c2, .slice a3 n3 c3, .slice a4 n4 c4, .int .i64 D] w fun e w' => e = .returned (.bool true) ∧ Below w.heap.size w w' := by
  have HH : Hid (¬ (s.size ≤ 262144 ∧ n1 ≤ 32768 ∧ n2 ≤ 16384 ∧ n3 ≤ 16384 ∧ n4 ≤ 16384 ∧ 0 ≤ D ∧ D ≤ s.size ∧ n2 = n3 ∧ n2 = n4)) := h
  clear h
  go_enter Try.func6, Try.ntmps6
  go_wp2_with fail
  refine (bytes_any _ _ _ _ _ _ _ _ _ _ _ _ _ _ _).mono ?_
  rintro e w' ⟨⟨r, rfl⟩, rfl⟩
  cases r with
  | false =>
    go_wp2
    go_ret
    exact ⟨rfl, Below.refl _ _⟩
  | true =>
    by_cases h1 : s.size ≤ 262144
    · by_cases h2 : n1 ≤ 32768
      · by_cases h3 : n2 ≤ 16384
        · by_cases h4 : n3 ≤ 16384
          · by_cases h5 : n4 ≤ 16384
            · by_cases h6 : D < 0
              · go_wp2
                go_ret
                exact ⟨rfl, Below.refl _ _⟩
              · by_cases h7 : (s.size : Int) < D
                · go_wp2
                  go_ret
                  exact ⟨rfl, Below.refl _ _⟩
                · by_cases h8 : n2 = n3
                  · by_cases h9 : n2 = n4
                    · exact absurd ⟨h1, h2, h3, h4, h5, by omega, by omega, h8, h9⟩ HH.out
                    · have e8 : ((n2 : Int) != (n3 : Int)) = false := by simp; omega
                      have e9 : ((n2 : Int) != (n4 : Int)) = true := by simp; omega
                      clear h8 h9
                      go_wp2
                      go_ret
                      exact ⟨rfl, Below.refl _ _⟩
                  · have e8 : ((n2 : Int) != (n3 : Int)) = true := by simp; omega
                    clear h8
                    go_wp2
                    go_ret
                    exact ⟨rfl, Below.refl _ _⟩
            · go_wp2
              go_ret
              exact ⟨rfl, Below.refl _ _⟩
          · go_wp2
            go_ret
            exact ⟨rfl, Below.refl _ _⟩
        · go_wp2
          go_ret
          exact ⟨rfl, Below.refl _ _⟩
      · go_wp2
        go_ret
        exact ⟨rfl, Below.refl _ _⟩
    · go_wp2
      go_ret
      exact ⟨rfl, Below.refl _ _⟩

/-- The law at every input. -/
theorem walk (s : ByteArray) (a1 a2 a3 a4 : Option Addr) (n1 c1 n2 c2 n3 c3 n4 c4 : Nat) (D : Int) (E : Nat → Nat) (K : Nat → Int) (A : Nat → Nat) (L : Nat → Bool) (w : World)
    (hE : Sl w a1 n1 (fun i => Value.int .u32 ((E i : Nat) : Int))) (hE0 : a1 = none → n1 = 0 ∧ c1 = 0) (hE1 : ∀ i, E i < 4294967296)
    (hAs : Sl w a2 n2 (fun i => Value.int .u32 ((A i : Nat) : Int))) (hA0 : a2 = none → n2 = 0 ∧ c2 = 0) (hA1 : ∀ i, A i < 4294967296)
    (hKs : Sl w a3 n3 (fun i => Value.int .u64 (K i))) (hK0 : a3 = none → n3 = 0 ∧ c3 = 0) (hLs : Sl w a4 n4 (fun i => Value.bool (L i))) (hL0 : a4 = none → n4 = 0 ∧ c4 = 0) :
    Calls Try.prog 6 #[.string s, .slice a1 n1 c1, .slice a2 n2 c2, .slice a3 n3 c3, .slice a4 n4 c4, .int .i64 D] w fun e w' => e = .returned (.bool true) ∧ Below w.heap.size w w' := by
  by_cases h : s.size ≤ 262144 ∧ n1 ≤ 32768 ∧ n2 ≤ 16384 ∧ n3 ≤ 16384 ∧ n4 ≤ 16384 ∧ 0 ≤ D ∧ D ≤ s.size ∧ n2 = n3 ∧ n2 = n4
  · obtain ⟨h1, h2, h3, h4, h5, h6, h7, rfl, rfl⟩ := h
    obtain ⟨d, rfl⟩ := Int.eq_ofNat_of_zero_le h6
    exact law_main s a1 a2 a3 a4 n1 c1 n2 c2 c3 c4 E K A L d w h1 h2 h3 (by omega) hE hE0 hE1 hAs hA0 hA1 hKs hK0 hLs hL0
  · exact law_early s a1 a2 a3 a4 n1 c1 n2 c2 n3 c3 n4 c4 D w h

end Go.Proofs.Qxb6601267a
