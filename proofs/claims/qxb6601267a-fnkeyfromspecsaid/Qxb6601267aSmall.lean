/-
  The walks of seat b6601267a, part 2: the bound on lengths; zzSpan; at.
-/
import Derived.Test.Qxb6601267aClones
namespace Go.Proofs.Qxb6601267a
open Go.RowKit

set_option maxHeartbeats 400000 in
theorem bytes_any (s : ByteArray) (a1 a2 a3 a4 : Option Addr) (n1 n2 n3 n4 c1 c2 c3 c4 : Nat) (d : Int) (w : World) :
    Calls Try.prog 14 #[.string s, .slice a1 n1 c1, .slice a2 n2 c2, .slice a3 n3 c3, .slice a4 n4 c4, .int .i64 d] w fun e w' => (∃ r, e = .returned (.bool r)) ∧ w = w' := by
  go_enter Try.func14, Try.ntmps14
  go_wp2
  all_goals (go_ret; exact ⟨⟨_, rfl⟩, rfl⟩)

/-- Where the ID at position j begins. -/
def startOf (E : Nat → Nat) (j : Nat) : Nat := if j = 0 then 0 else E (j - 1)

set_option maxHeartbeats 400000 in
theorem span_any (a : Option Addr) (n c j : Nat) (E : Nat → Nat) (w : World) (hn : n ≤ 1048576) (hj : j < n) (hs : Sl w a n (fun i => Value.int .u32 ((E i : Nat) : Int))) :
    Calls Try.prog 15 #[.slice a n c, .int .i64 j] w fun e w' => e = .returned (.tuple #[.int .u32 ((startOf E j : Nat) : Int), .int .u32 ((E j : Nat) : Int)]) ∧ Below w.heap.size w w' := by
  obtain ⟨b, o, rfl, hc⟩ := hs j hj
  by_cases h0 : j = 0
  · subst h0
    have hl : (0 : Int) < (n : Int) := by omega
    have hc0 : w.cell? ⟨b, o, none⟩ = some (.int .u32 ((E 0 : Nat) : Int)) := by simpa using hc
    clear hs hc
    go_enter Try.func15, Try.ntmps15
    go_wp2
    go_quiet (fail)
    go_wp2
    go_ret2
    exact ⟨rfl, below_drewN (Below.refl _ _) _⟩
  · obtain ⟨b', o', hx, hc'⟩ := hs (j - 1) (by omega)
    simp only [Option.some.injEq, Addr.mk.injEq, and_true] at hx
    obtain ⟨rfl, rfl⟩ := hx
    obtain ⟨k, rfl⟩ : ∃ k, j = k + 1 := ⟨j - 1, by omega⟩
    have hl : ((k : Int) + 1) < (n : Int) := by omega
    have hl' : (k : Int) < (n : Int) := by omega
    have hc0 : w.cell? ⟨b, o + (k + 1), none⟩ = some (.int .u32 ((E (k + 1) : Nat) : Int)) := hc
    have hc1 : w.cell? ⟨b, o + k, none⟩ = some (.int .u32 ((E k : Nat) : Int)) := by simpa using hc'
    clear hs hc hc' h0
    go_enter Try.func15, Try.ntmps15
    go_wp2
    go_quiet (fail)
    go_wp2
    go_ret2
    exact ⟨rfl, below_drewN (Below.refl _ _) _⟩

set_option maxHeartbeats 400000 in
theorem at_any (pb : Nat) (s : ByteArray) (a : Option Addr) (n c j : Nat) (E : Nat → Nat) (w : World) (hn : n ≤ 1048576) (hj : j < n) (hs : Sl w a n (fun i => Value.int .u32 ((E i : Nat) : Int)))
    (hp0 : w.cell? ⟨pb, 0, none⟩ = some (.string s)) (hp1 : w.cell? ⟨pb, 1, none⟩ = some (.slice a n c)) (h2 : startOf E j ≤ E j) (h3 : E j ≤ s.size) :
    Calls Try.prog 24 #[.pointer (some ⟨pb, 0, none⟩), .int .i64 j] w fun e w' => e = .returned (.string (s.extract (startOf E j) (E j))) ∧ Below w.heap.size w w' := by
  obtain ⟨b, o, rfl, hc⟩ := hs j hj
  by_cases h0 : j = 0
  · subst h0
    have hl : (0 : Int) < (n : Int) := by omega
    have hc0 : w.cell? ⟨b, o, none⟩ = some (.int .u32 ((E 0 : Nat) : Int)) := by simpa using hc
    simp only [startOf, if_true] at h2 ⊢
    generalize E 0 = e1 at *
    clear hs hc
    go_enter Try.func24, Try.ntmps24
    go_wp2
    go_quiet (fail)
    go_wp2
    go_ret
    exact ⟨rfl, below_drewN (Below.refl _ _) _⟩
  · obtain ⟨b', o', hx, hc'⟩ := hs (j - 1) (by omega)
    simp only [Option.some.injEq, Addr.mk.injEq, and_true] at hx
    obtain ⟨rfl, rfl⟩ := hx
    obtain ⟨k, rfl⟩ : ∃ k, j = k + 1 := ⟨j - 1, by omega⟩
    have hl : ((k : Int) + 1) < (n : Int) := by omega
    have hl' : (k : Int) < (n : Int) := by omega
    have hc0 : w.cell? ⟨b, o + (k + 1), none⟩ = some (.int .u32 ((E (k + 1) : Nat) : Int)) := hc
    have hc1 : w.cell? ⟨b, o + k, none⟩ = some (.int .u32 ((E k : Nat) : Int)) := by simpa using hc'
    have e : startOf E (k + 1) = E k := by simp [startOf]
    rw [e] at h2 ⊢
    clear hs hc hc' h0 e
    generalize E (k + 1) = e1 at *
    generalize E k = e0 at *
    go_enter Try.func24, Try.ntmps24
    go_wp2
    go_quiet (fail)
    go_wp2
    go_ret
    exact ⟨rfl, below_drewN (Below.refl _ _) _⟩

end Go.Proofs.Qxb6601267a
