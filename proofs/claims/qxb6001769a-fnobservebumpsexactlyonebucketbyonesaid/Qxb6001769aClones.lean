/-
  The walks of seat b6001769a, part 1: a slice as a row of cells said by its index; the two clones.
-/
import Derived.Test.Qxb6001769aRows
import Derived.WalkKit
import Derived.WalkSpells
import Derived.WalkLawsBesides
import Derived.Deep.OwnRows
import Derived.Deep.QuietTactic
import Derived.BigQuiet
import Derived.Test.Qxb6001769aFloat
namespace Go.Proofs.Qxb6001769a
open Go.RowKit

/-- The slice value that begins at 'a' and has n elements: element i lies in a cell and holds 'f i'. -/
def Sl (w : World) (a : Option Addr) (n : Nat) (f : Nat → Value) : Prop :=
  ∀ i, i < n → ∃ b o, a = some ⟨b, o, none⟩ ∧ w.cell? ⟨b, o + i, none⟩ = some (f i)

theorem Sl.below {w w' : World} {a : Option Addr} {n : Nat} {f : Nat → Value} (h : Sl w a n f) (hb : Below w.heap.size w w') : Sl w' a n f := by
  intro i hi
  obtain ⟨b, o, ha, hc⟩ := h i hi
  exact ⟨b, o, ha, cell_later hb hc⟩

theorem rowIs_below {w w' : World} {b : Nat} {t : TypeId} {n : Nat} {f : Nat → Value} (h : w.rowIs b t n f) (hb : Below w.heap.size w w') : w'.rowIs b t n f :=
  h.of_block (hb.block _ h.lt)

theorem Sl.ofRow {w : World} {b : Nat} {t : TypeId} {n : Nat} {f : Nat → Value} (h : w.rowIs b t n f) : Sl w (some ⟨b, 0, none⟩) n f := by
  intro i hi
  exact ⟨b, 0, rfl, by simpa using h.cell hi⟩

/-- A float stored into a cell. -/
theorem run_store_float (P : Program) (w : World) (a : Addr) (m : Mode) (k : FloatKind) (b : Nat) : (store a (.float k b) m).run P w = stored P w a (.float k b) m := run_store P w a _ m rfl
attribute [local go_sem] run_store_float

theorem Try.info24 : (Try.prog.info? 24).map (fun i => (i.zero, i.size, i.bytes)) = some (some (.float .f64 0), 1, 8) := by kernel_rfl

set_option maxHeartbeats 400000 in
theorem clone9_nil (w : World) : Calls Try.prog 9 #[.slice none 0 0] w fun e w' => e = .returned (.slice none 0 0) ∧ w' = w := by
  have hq : ∀ (w : World) (a : Option Addr) (n c n' c' : Nat), (binOp .eql 22 (.slice a n c) (.slice none n' c')).run Try.prog w = .ok (.bool a.isNone) w := fun w a n c n' c' => Lib.run_eql_slice_nil w _ _ a n c n' c' Try.underlying22
  go_enter Try.func9, Try.ntmps9
  go_wp2
  go_ret
  exact ⟨rfl, rfl⟩

set_option maxHeartbeats 400000 in
theorem clone9_some (x : Addr) (n c : Nat) (E : Nat → Nat) (w : World) (hn : n ≤ 1048576) (hs : Sl w (some x) n (fun i => Value.float .f64 (E i))) :
    Calls Try.prog 9 #[.slice (some x) n c] w fun e w' => e = .returned (.slice (some ⟨w.heap.size, 0, none⟩) n n) ∧ w'.rowIs w.heap.size 24 n (fun i => Value.float .f64 (E i)) ∧ Below w.heap.size w w' := by
  have hq : ∀ (w : World) (a : Option Addr) (n c n' c' : Nat), (binOp .eql 22 (.slice a n c) (.slice none n' c')).run Try.prog w = .ok (.bool a.isNone) w := fun w a n c n' c' => Lib.run_eql_slice_nil w _ _ a n c n' c' Try.underlying22
  have hmk := run_make_row' (P := Try.prog) 22 24 (.float .f64 0) 8 Try.underlying22 Try.info24 rfl .i64 .i64 n (by omega) (by omega)
  have hs2 : Hid (Sl w (some x) n (fun i => Value.float .f64 (E i))) := hs
  clear hs
  go_enter Try.func9, Try.ntmps9
  go_wp2
  clear hq hmk
  go_loopw [4] (fun i wr => ∃ k : Nat, k ≤ n ∧ i = .int .i64 k ∧ wr.rowIs w.heap.size 24 n (fun j => if j < k then Value.float .f64 (E j) else .float .f64 0) ∧ Below w.heap.size w wr) (fun i _ => n - (intOf i).toNat)
  case atStart => exact ⟨0, Nat.zero_le _, rfl, (World.rowIs_made w _ n 24).congr (fun i _ => by simp), (Below.refl _ _).alloc (Nat.le_refl _) _⟩
  case round =>
    obtain ⟨k, hk, rfl, hrow, hbel⟩ := hrel
    by_cases hlt : k < n
    · obtain ⟨b, o, hx, hc⟩ := hs2.out k hlt
      obtain rfl : x = ⟨b, o, none⟩ := by simpa using hx
      clear hx
      have hcr : wr.cell? ⟨b, o + k, none⟩ = some (Value.float .f64 (E k)) := cell_later hbel hc
      have hcw : wr.cell? ⟨w.heap.size, k, none⟩ = some (.float .f64 0) := by simpa using hrow.cell hlt
      have hfw : wr.frozen? ⟨w.heap.size, k, none⟩ = false := hrow.frozen k
      have hnew : (wr.setCell ⟨w.heap.size, k, none⟩ (Value.float .f64 (E k))).rowIs w.heap.size 24 n (fun j => if j < k + 1 then Value.float .f64 (E j) else .float .f64 0) := by
        refine (hrow.set k _).congr fun j hj => ?_
        by_cases e : j = k
        · subst e; simp
        · by_cases e2 : j < k
          · simp [e, e2, show j < k + 1 from by omega]
          · simp [e, e2, show ¬ j < k + 1 from by omega]
      have HN : Hid ((wr.setCell ⟨w.heap.size, k, none⟩ (Value.float .f64 (E k))).rowIs w.heap.size 24 n (fun j => if j < k + 1 then Value.float .f64 (E j) else .float .f64 0)) := hnew
      have HB : Hid (Below w.heap.size w wr) := hbel
      clear hnew hrow hbel hc
      go_wp2
      go_roundw
      case rel => exact ⟨k + 1, by omega, by go_num, HN.out, HB.out.setCell (Nat.le_refl _) _⟩
      case measure => simp [intOf]; omega
    · have hkn : k = n := by omega
      subst hkn
      have HR : Hid (wr.rowIs w.heap.size 24 k (fun j => if j < k then Value.float .f64 (E j) else .float .f64 0)) := hrow
      have HB : Hid (Below w.heap.size w wr) := hbel
      clear hrow hbel
      go_wp2
      go_ret
      exact ⟨rfl, HR.out.congr (fun j hj => by simp [hj]), HB.out⟩

theorem clone9_any (a : Option Addr) (n c : Nat) (E : Nat → Nat) (w : World) (hn : n ≤ 1048576) (hnil : a = none → n = 0 ∧ c = 0) (hs : Sl w a n (fun i => Value.float .f64 (E i))) :
    Calls Try.prog 9 #[.slice a n c] w fun e w' => ∃ a' c', e = .returned (.slice a' n c') ∧ Sl w' a' n (fun i => Value.float .f64 (E i)) ∧ (a' = none → n = 0 ∧ c' = 0) ∧ Below w.heap.size w w' := by
  cases a with
  | none =>
    obtain ⟨rfl, rfl⟩ := hnil rfl
    refine (clone9_nil w).mono fun e w' ⟨he, hw⟩ => ?_
    subst hw
    exact ⟨none, 0, he, hs, fun _ => ⟨rfl, rfl⟩, Below.refl _ _⟩
  | some x =>
    refine (clone9_some x n c E w hn hs).mono fun e w' ⟨he, hr, hb⟩ => ?_
    exact ⟨_, _, he, Sl.ofRow hr, fun h => by simp at h, hb⟩

theorem Try.info34 : (Try.prog.info? 34).map (fun i => (i.zero, i.size, i.bytes)) = some (some (.int .u64 0), 1, 8) := by kernel_rfl

set_option maxHeartbeats 400000 in
theorem clone10_nil (w : World) : Calls Try.prog 10 #[.slice none 0 0] w fun e w' => e = .returned (.slice none 0 0) ∧ w' = w := by
  have hq : ∀ (w : World) (a : Option Addr) (n c n' c' : Nat), (binOp .eql 23 (.slice a n c) (.slice none n' c')).run Try.prog w = .ok (.bool a.isNone) w := fun w a n c n' c' => Lib.run_eql_slice_nil w _ _ a n c n' c' Try.underlying23
  go_enter Try.func10, Try.ntmps10
  go_wp2
  go_ret
  exact ⟨rfl, rfl⟩

set_option maxHeartbeats 400000 in
theorem clone10_some (x : Addr) (n c : Nat) (E : Nat → Int) (w : World) (hn : n ≤ 1048576) (hs : Sl w (some x) n (fun i => Value.int .u64 (E i))) :
    Calls Try.prog 10 #[.slice (some x) n c] w fun e w' => e = .returned (.slice (some ⟨w.heap.size, 0, none⟩) n n) ∧ w'.rowIs w.heap.size 34 n (fun i => Value.int .u64 (E i)) ∧ Below w.heap.size w w' := by
  have hq : ∀ (w : World) (a : Option Addr) (n c n' c' : Nat), (binOp .eql 23 (.slice a n c) (.slice none n' c')).run Try.prog w = .ok (.bool a.isNone) w := fun w a n c n' c' => Lib.run_eql_slice_nil w _ _ a n c n' c' Try.underlying23
  have hmk := run_make_row' (P := Try.prog) 23 34 (.int .u64 0) 8 Try.underlying23 Try.info34 rfl .i64 .i64 n (by omega) (by omega)
  have hs2 : Hid (Sl w (some x) n (fun i => Value.int .u64 (E i))) := hs
  clear hs
  go_enter Try.func10, Try.ntmps10
  go_wp2
  clear hq hmk
  go_loopw [4] (fun i wr => ∃ k : Nat, k ≤ n ∧ i = .int .i64 k ∧ wr.rowIs w.heap.size 34 n (fun j => if j < k then Value.int .u64 (E j) else .int .u64 0) ∧ Below w.heap.size w wr) (fun i _ => n - (intOf i).toNat)
  case atStart => exact ⟨0, Nat.zero_le _, rfl, (World.rowIs_made w _ n 34).congr (fun i _ => by simp), (Below.refl _ _).alloc (Nat.le_refl _) _⟩
  case round =>
    obtain ⟨k, hk, rfl, hrow, hbel⟩ := hrel
    by_cases hlt : k < n
    · obtain ⟨b, o, hx, hc⟩ := hs2.out k hlt
      obtain rfl : x = ⟨b, o, none⟩ := by simpa using hx
      clear hx
      have hcr : wr.cell? ⟨b, o + k, none⟩ = some (Value.int .u64 (E k)) := cell_later hbel hc
      have hcw : wr.cell? ⟨w.heap.size, k, none⟩ = some (.int .u64 0) := by simpa using hrow.cell hlt
      have hfw : wr.frozen? ⟨w.heap.size, k, none⟩ = false := hrow.frozen k
      have hnew : (wr.setCell ⟨w.heap.size, k, none⟩ (Value.int .u64 (E k))).rowIs w.heap.size 34 n (fun j => if j < k + 1 then Value.int .u64 (E j) else .int .u64 0) := by
        refine (hrow.set k _).congr fun j hj => ?_
        by_cases e : j = k
        · subst e; simp
        · by_cases e2 : j < k
          · simp [e, e2, show j < k + 1 from by omega]
          · simp [e, e2, show ¬ j < k + 1 from by omega]
      have HN : Hid ((wr.setCell ⟨w.heap.size, k, none⟩ (Value.int .u64 (E k))).rowIs w.heap.size 34 n (fun j => if j < k + 1 then Value.int .u64 (E j) else .int .u64 0)) := hnew
      have HB : Hid (Below w.heap.size w wr) := hbel
      clear hnew hrow hbel hc
      go_wp2
      go_roundw
      case rel => exact ⟨k + 1, by omega, by go_num, HN.out, HB.out.setCell (Nat.le_refl _) _⟩
      case measure => simp [intOf]; omega
    · have hkn : k = n := by omega
      subst hkn
      have HR : Hid (wr.rowIs w.heap.size 34 k (fun j => if j < k then Value.int .u64 (E j) else .int .u64 0)) := hrow
      have HB : Hid (Below w.heap.size w wr) := hbel
      clear hrow hbel
      go_wp2
      go_ret
      exact ⟨rfl, HR.out.congr (fun j hj => by simp [hj]), HB.out⟩

theorem clone10_any (a : Option Addr) (n c : Nat) (E : Nat → Int) (w : World) (hn : n ≤ 1048576) (hnil : a = none → n = 0 ∧ c = 0) (hs : Sl w a n (fun i => Value.int .u64 (E i))) :
    Calls Try.prog 10 #[.slice a n c] w fun e w' => ∃ a' c', e = .returned (.slice a' n c') ∧ Sl w' a' n (fun i => Value.int .u64 (E i)) ∧ (a' = none → n = 0 ∧ c' = 0) ∧ Below w.heap.size w w' := by
  cases a with
  | none =>
    obtain ⟨rfl, rfl⟩ := hnil rfl
    refine (clone10_nil w).mono fun e w' ⟨he, hw⟩ => ?_
    subst hw
    exact ⟨none, 0, he, hs, fun _ => ⟨rfl, rfl⟩, Below.refl _ _⟩
  | some x =>
    refine (clone10_some x n c E w hn hs).mono fun e w' ⟨he, hr, hb⟩ => ?_
    exact ⟨_, _, he, Sl.ofRow hr, fun h => by simp at h, hb⟩

end Go.Proofs.Qxb6001769a
