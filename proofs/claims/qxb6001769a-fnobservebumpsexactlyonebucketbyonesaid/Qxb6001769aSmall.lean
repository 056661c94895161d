/-
  The walks of seat b6001769a, part 2: the bounds on lengths, zzSizeOK, zzValidHist.
-/
import Derived.Test.Qxb6001769aClones
namespace Go.Proofs.Qxb6001769a
open Go.RowKit

set_option maxHeartbeats 400000 in
theorem bytes6_any (a1 a2 : Option Addr) (n1 c1 n2 c2 v : Nat) (w : World) :
    Calls Try.prog 6 #[.slice a1 n1 c1, .slice a2 n2 c2, .float .f64 v] w fun e w' => (∃ r, e = .returned (.bool r)) ∧ w = w' := by
  go_enter Try.func6, Try.ntmps6
  go_wp2
  all_goals (go_ret; exact ⟨⟨_, rfl⟩, rfl⟩)

set_option maxHeartbeats 400000 in
theorem bytes15_any (a1 a2 a3 : Option Addr) (n1 c1 n2 c2 n3 c3 : Nat) (w : World) :
    Calls Try.prog 15 #[.slice a1 n1 c1, .slice a2 n2 c2, .slice a3 n3 c3] w fun e w' => (∃ r, e = .returned (.bool r)) ∧ w = w' := by
  go_enter Try.func15, Try.ntmps15
  go_wp2
  all_goals (go_ret; exact ⟨⟨_, rfl⟩, rfl⟩)

/-- The call answers a bool of which p holds. -/
def Answers (e : Ending) (p : Bool → Prop) : Prop := ∃ r, e = .returned (.bool r) ∧ p r
theorem Answers.mk {p : Bool → Prop} (r : Bool) (h : p r) : Answers (.returned (.bool r)) p := ⟨r, rfl, h⟩

/-- The bound that zzSizeOK answers for. -/
def Small3 (n1 n2 n3 : Nat) (r : Bool) : Prop := r = true → n1 ≤ 65536 ∧ n2 ≤ 65536 ∧ n3 ≤ 65536

set_option maxHeartbeats 400000 in
theorem size_any (a1 a2 a3 : Option Addr) (n1 c1 n2 c2 n3 c3 : Nat) (w : World) :
    Calls Try.prog 7 #[.slice a1 n1 c1, .slice a2 n2 c2, .slice a3 n3 c3] w fun e w' => Answers e (Small3 n1 n2 n3) ∧ w = w' := by
  by_cases h1 : n1 ≤ 65536
  · by_cases h2 : n2 ≤ 65536
    · by_cases h3 : n3 ≤ 65536
      · go_enter Try.func7, Try.ntmps7
        go_wp2
        all_goals (go_ret; exact ⟨Answers.mk _ (fun _ => ⟨h1, h2, h3⟩), rfl⟩)
      · go_enter Try.func7, Try.ntmps7
        go_wp2
        all_goals (go_ret; exact ⟨Answers.mk false (fun h => by cases h), rfl⟩)
    · go_enter Try.func7, Try.ntmps7
      go_wp2
      all_goals (go_ret; exact ⟨Answers.mk false (fun h => by cases h), rfl⟩)
  · go_enter Try.func7, Try.ntmps7
    go_wp2
    all_goals (go_ret; exact ⟨Answers.mk false (fun h => by cases h), rfl⟩)

/-- What zzValidHist says of the bounds. -/
def Valid (X : Nat → Nat) (n m : Nat) : Prop :=
  0 < n ∧ m = n ∧ (∀ j, j < n → od (X j) (X j) = some .eq) ∧ (∀ j, j + 1 < n → od (X j) (X (j + 1)) = some .lt ∨ od (X j) (X (j + 1)) = some .eq) ∧ od (X (n - 1)) 9218868437227405311 = some .gt

set_option maxHeartbeats 1000000 in
theorem valid_any (a1 a2 : Option Addr) (n c1 m c2 : Nat) (X : Nat → Nat) (w : World) (hn : n ≤ 65536) (hm : m ≤ 65536) (hs : Sl w a1 n (fun i => Value.float .f64 (X i))) :
    Calls Try.prog 8 #[.slice a1 n c1, .slice a2 m c2] w fun e w' => Answers e (fun r => r = true → Valid X n m) ∧ Below w.heap.size w w' := by
  have HS : Hid (Sl w a1 n (fun i => Value.float .f64 (X i))) := hs
  clear hs
  by_cases h0 : n = 0
  · subst h0
    go_enter Try.func8, Try.ntmps8
    go_wp2
    go_ret
    exact ⟨Answers.mk false (fun h => by cases h), Below.refl _ _⟩
  · have e0 : ((n : Int) == 0) = false := by simp; omega
    by_cases hmn : m = n
    · subst hmn
      have e1 : ((m : Int) != (m : Int)) = false := by simp
      go_enter Try.func8, Try.ntmps8
      go_wp2
      go_loopw [5] (fun i wr => ∃ k : Nat, k ≤ m ∧ i = .int .i64 k ∧ Hid ((∀ j, j < k → od (X j) (X j) = some .eq) ∧ (∀ j, j + 1 < k → od (X j) (X (j + 1)) = some .lt ∨ od (X j) (X (j + 1)) = some .eq)) ∧ Hid (Below w.heap.size w wr)) (fun i _ => m - (intOf i).toNat)
      case atStart => exact ⟨0, Nat.zero_le _, rfl, ⟨fun j hj => absurd hj (Nat.not_lt_zero j), fun j hj => absurd hj (Nat.not_lt_zero _)⟩, Below.refl _ _⟩
      case round =>
        obtain ⟨k, hk, rfl, HV, HB⟩ := hrel
        by_cases hlt : k < m
        · obtain ⟨b, o, rfl, hc⟩ := (HS.out.below HB.out) k hlt
          have hl1 : (k : Int) < (m : Int) := by omega
          by_cases hnan : od (X k) (X k) = some .eq
          · have en : (FloatKind.f64.format.order (X k) (X k) != some .eq) = false := by simp [hnan]
            by_cases hk0 : k = 0
            · have hd : decide ((0 : Int) < (k : Int)) = false := by simp; omega
              subst hk0
              have hc0 : wr.cell? ⟨b, o, none⟩ = some (.float .f64 (X 0)) := by simpa using hc
              have HNAN : Hid (od (X 0) (X 0) = some .eq) := hnan
              clear hnan
              go_wp2
              go_quiet (fail)
              go_wp2
              go_quiet (fail)
              go_wp2
              go_roundw
              case rel => exact ⟨0 + 1, by omega, by go_num, ⟨fun j hj => by
                  obtain rfl : j = 0 := by omega
                  exact HNAN.out, fun j hj => by omega⟩, below_drewN HB.out _⟩
              case measure => simp [intOf]; omega
            · obtain ⟨j, rfl⟩ : ∃ j, k = j + 1 := ⟨k - 1, by omega⟩
              have hcj : wr.cell? ⟨b, o + j, none⟩ = some (.float .f64 (X j)) := by
                obtain ⟨b', o', e, h⟩ := (HS.out.below HB.out) j (by omega)
                simp only [Option.some.injEq, Addr.mk.injEq, and_true] at e
                obtain ⟨rfl, rfl⟩ := e
                exact h
              have hl2 : (j : Int) < (m : Int) := by omega
              have HNAN : Hid (od (X (j + 1)) (X (j + 1)) = some .eq) := hnan
              clear hnan hk0
              by_cases hle : od (X j) (X (j + 1)) = some .lt ∨ od (X j) (X (j + 1)) = some .eq
              · have el : (FloatKind.f64.format.order (X j) (X (j + 1)) == some .lt || FloatKind.f64.format.order (X j) (X (j + 1)) == some .eq) = true := by
                  rcases hle with h | h
                  · rw [show FloatKind.f64.format.order (X j) (X (j + 1)) = some .lt from h]; rfl
                  · rw [show FloatKind.f64.format.order (X j) (X (j + 1)) = some .eq from h]; rfl
                have HLE : Hid (od (X j) (X (j + 1)) = some .lt ∨ od (X j) (X (j + 1)) = some .eq) := hle
                clear hle
                go_wp2
                go_quiet (fail)
                go_wp2
                go_quiet (fail)
                go_wp2
                go_roundw
                case rel => exact ⟨j + 1 + 1, by omega, by go_num, ⟨fun q hq => by
                    by_cases e : q = j + 1
                    · subst e; exact HNAN.out
                    · exact HV.out.1 q (by omega), fun q hq => by
                    by_cases e : q = j
                    · subst e; exact HLE.out
                    · exact HV.out.2 q (by omega)⟩, below_drewN HB.out _⟩
                case measure => simp [intOf]; omega
              · have el : (FloatKind.f64.format.order (X j) (X (j + 1)) == some .lt || FloatKind.f64.format.order (X j) (X (j + 1)) == some .eq) = false := by
                  rw [Bool.or_eq_false_iff]
                  exact ⟨beq_false_of_ne (fun h => hle (Or.inl h)), beq_false_of_ne (fun h => hle (Or.inr h))⟩
                clear hle
                go_wp2
                go_quiet (fail)
                go_wp2
                go_quiet (fail)
                go_wp2
                go_ret
                exact ⟨Answers.mk false (fun h => by cases h), below_drewN (below_drewN HB.out _) _⟩
          · have en : (FloatKind.f64.format.order (X k) (X k) != some .eq) = true := by
              rw [bne_iff_ne]; exact hnan
            clear hnan
            go_wp2
            go_quiet (fail)
            go_wp2
            go_ret
            exact ⟨Answers.mk false (fun h => by cases h), below_drewN HB.out _⟩
        · obtain rfl : k = m := by omega
          obtain ⟨j, rfl⟩ : ∃ j, k = j + 1 := ⟨k - 1, by omega⟩
          obtain ⟨b, o, rfl, hc⟩ := (HS.out.below HB.out) j (by omega)
          have hl2 : (j : Int) < ((j + 1 : Nat) : Int) := by omega
          clear h0
          go_wp2
          go_ret
          exact ⟨Answers.mk _ (fun h => ⟨by omega, rfl, HV.out.1, HV.out.2, by simpa using h⟩), HB.out⟩
    · have e1 : ((m : Int) != (n : Int)) = true := by simp; omega
      clear hmn
      go_enter Try.func8, Try.ntmps8
      go_wp2
      go_ret
      exact ⟨Answers.mk false (fun h => by cases h), Below.refl _ _⟩

end Go.Proofs.Qxb6001769a
