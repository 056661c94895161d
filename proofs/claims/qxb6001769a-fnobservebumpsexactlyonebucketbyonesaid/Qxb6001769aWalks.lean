/-
  The walks of seat b6001769a, part 3: the binary search, the histogram's making, reading, and Observe.
-/
import Derived.Test.Qxb6001769aSmall
namespace Go.Proofs.Qxb6001769a
open Go.RowKit
attribute [local go_sem] run_store_float

theorem isNaN18_any (x : Nat) (w : World) :
    Calls Try.prog 18 #[.float .f64 x] w fun e w' => e = .returned (.bool (FloatKind.f64.format.order x x != some .eq)) ∧ w' = w := by
  go_enter Try.func18, Try.ntmps18
  go_wp2
  go_ret
  exact ⟨rfl, rfl⟩

theorem isNaN19_any (x : Nat) (w : World) :
    Calls Try.prog 19 #[.float .f64 x] w fun e w' => e = .returned (.bool (FloatKind.f64.format.order x x != some .eq)) ∧ w' = w := by
  go_enter Try.func19, Try.ntmps19
  go_wp2
  go_ret
  exact ⟨rfl, rfl⟩

theorem less_any (x v : Nat) (w : World) (hx : od x x = some .eq) :
    Calls Try.prog 17 #[.float .f64 x, .float .f64 v] w fun e w' => e = .returned (.bool (FloatKind.f64.format.order x v == some .lt)) ∧ w' = w := by
  have hn := isNaN19_any x w
  have e1 : (FloatKind.f64.format.order x x != some .eq) = false := by
    rw [show FloatKind.f64.format.order x x = some .eq from hx]; rfl
  rw [e1] at hn
  clear hx e1
  go_enter Try.func17, Try.ntmps17
  go_wp2_with fail
  refine hn.mono ?_
  clear hn
  rintro e w' ⟨rfl, rfl⟩
  go_wp2
  go_ret
  exact ⟨rfl, rfl⟩

/-- What the binary search answers: the place between what is less and what is not. -/
def Found (X : Nat → Nat) (n v : Nat) (e : Ending) : Prop :=
  ∃ (i : Nat) (b : Bool), e = .returned (.tuple #[.int .i64 i, .bool b]) ∧ i ≤ n ∧ (i < n → (od (X i) v == some .lt) = false) ∧ (∀ j, i = j + 1 → (od (X j) v == some .lt) = true)

theorem Found.mk {X : Nat → Nat} {n v i : Nat} (b : Bool) (h1 : i ≤ n) (h2 : i < n → (od (X i) v == some .lt) = false) (h3 : ∀ j, i = j + 1 → (od (X j) v == some .lt) = true) :
    Found X n v (.returned (.tuple #[.int .i64 i, .bool b])) := ⟨i, b, rfl, h1, h2, h3⟩

set_option maxHeartbeats 1000000 in
theorem search_any (a : Option Addr) (n c v : Nat) (X : Nat → Nat) (w : World) (hn : n ≤ 65536) (hs : Sl w a n (fun i => Value.float .f64 (X i))) (hX : ∀ j, j < n → od (X j) (X j) = some .eq) :
    Calls Try.prog 16 #[.slice a n c, .float .f64 v] w fun e w' => Found X n v e ∧ w = w' := by
  have HS : Hid (Sl w a n (fun i => Value.float .f64 (X i)) ∧ ∀ j, j < n → od (X j) (X j) = some .eq) := ⟨hs, hX⟩
  clear hs hX
  go_enter Try.func16, Try.ntmps16
  go_wp2
  go_loop [7, 8] (fun iv jv => ∃ i j : Nat, i ≤ j ∧ j ≤ n ∧ iv = .int .i64 i ∧ jv = .int .i64 j ∧ Hid (∀ q, i = q + 1 → (od (X q) v == some .lt) = true) ∧ Hid (j < n → (od (X j) v == some .lt) = false)) (fun iv jv => (intOf jv - intOf iv).toNat)
  case atStart => exact ⟨0, n, Nat.zero_le _, Nat.le_refl _, rfl, rfl, fun q hq => by omega, fun h => by omega⟩
  case round =>
    obtain ⟨i, j, hij, hj, rfl, rfl, H1, H2⟩ := hrel
    by_cases hlt : i < j
    · have hh : (i + j) / 2 < n := by omega
      obtain ⟨b, o, rfl, hc⟩ := HS.out.1 _ hh
      have hls := less_any (X ((i + j) / 2)) v w (HS.out.2 _ hh)
      have hl : (i + j) / 2 < j := by omega
      have hg : i ≤ (i + j) / 2 := by omega
      cases hb : (FloatKind.f64.format.order (X ((i + j) / 2)) v == some .lt) with
      | true =>
        rw [hb] at hls
        have HB : Hid ((od (X ((i + j) / 2)) v == some .lt) = true) := hb
        clear hb
        go_wp2_with fail
        refine hls.mono ?_
        clear hls
        rintro e w' ⟨rfl, rfl⟩
        go_wp2
        go_round
        case rel => exact ⟨(i + j) / 2 + 1, j, by omega, hj, by go_num, rfl, fun q hq => by
          obtain rfl : q = (i + j) / 2 := by omega
          exact HB.out, H2⟩
        case measure => simp [intOf]; omega
      | false =>
        rw [hb] at hls
        have HB : Hid ((od (X ((i + j) / 2)) v == some .lt) = false) := hb
        clear hb
        go_wp2_with fail
        refine hls.mono ?_
        clear hls
        rintro e w' ⟨rfl, rfl⟩
        go_wp2
        go_round
        case rel => exact ⟨i, (i + j) / 2, hg, by omega, rfl, by go_num, H1, fun _ => HB.out⟩
        case measure => simp [intOf]; omega
    · obtain rfl : i = j := by omega
      by_cases hin : i < n
      · obtain ⟨b, o, rfl, hc⟩ := HS.out.1 _ hin
        have hl : (i : Int) < (n : Int) := by omega
        cases he : (FloatKind.f64.format.order (X i) v == some .eq) with
        | true =>
          go_wp2
          go_ret2
          exact ⟨Found.mk true hj H2.out H1.out, rfl⟩
        | false =>
          have hnn := isNaN18_any (X i) w
          have e1 : (FloatKind.f64.format.order (X i) (X i) != some .eq) = false := by
            rw [show FloatKind.f64.format.order (X i) (X i) = some .eq from HS.out.2 _ hin]; rfl
          rw [e1] at hnn
          clear e1
          go_wp2_with fail
          refine hnn.mono ?_
          clear hnn
          rintro e w' ⟨rfl, rfl⟩
          go_wp2
          go_ret2
          exact ⟨Found.mk false hj H2.out H1.out, rfl⟩
      · go_wp2
        go_ret2
        exact ⟨Found.mk false hj H2.out H1.out, rfl⟩

/-- The bits of the NaN that the tape gives. -/
def nanR (x y : Nat) (W : World) : Nat := (Question.nanBits .f64 x y).cut (W.tape W.drawn (.nanBits .f64 x y))

theorem add_run (t : TypeId) (x y : Nat) :
    (∃ r, ∀ W : World, (binOp .add t (.float .f64 x) (.float .f64 y)).run Try.prog W = .ok (.float .f64 r) W) ∨
    (∀ W : World, (binOp .add t (.float .f64 x) (.float .f64 y)).run Try.prog W = .ok (.float .f64 (nanR x y W)) W.drew) := by
  cases h : floatBits .add .f64 x y with
  | some r => exact Or.inl ⟨r, fun W => run_float_arith W .add t .f64 x y r h⟩
  | none =>
    right
    intro W
    have h' : FloatKind.f64.format.add x y = none := h
    simp [binOp, Op.floatArith, h', nanR, Question.forced]

theorem new_any (a1 a2 : Option Addr) (n1 c1 n2 c2 s : Nat) (w : World) :
    Calls Try.prog 11 #[.slice a1 n1 c1, .slice a2 n2 c2, .float .f64 s] w fun e w' => e = .returned (.pointer (some ⟨w.heap.size, 0, none⟩)) ∧ w' = w.alloc (.cells #[.slice a1 n1 c1, .slice a2 n2 c2, .float .f64 s] 36) := by
  go_enter Try.func11, Try.ntmps11
  go_wp2
  go_ret
  exact ⟨rfl, rfl⟩

/-- The histogram at block hb: its bounds, its counts (a row at block cb), its sum whatever. -/
def Hist (w : World) (hb : Nat) (a : Option Addr) (n c cb : Nat) : Prop :=
  ∃ s, w.heap[hb]? = some (.cells #[.slice a n c, .slice (some ⟨cb, 0, none⟩) n n, .float .f64 s] 36 (0, 0))

theorem Hist.cells {w : World} {hb : Nat} {a : Option Addr} {n c cb : Nat} (h : Hist w hb a n c cb) :
    w.cell? ⟨hb, 0, none⟩ = some (.slice a n c) ∧ w.cell? ⟨hb, 1, none⟩ = some (.slice (some ⟨cb, 0, none⟩) n n) ∧ (∃ s, w.cell? ⟨hb, 2, none⟩ = some (.float .f64 s)) ∧ w.frozen? ⟨hb, 2, none⟩ = false ∧ hb < w.heap.size := by
  obtain ⟨s, hs⟩ := h
  refine ⟨by simp [World.cell?, hs], by simp [World.cell?, hs], ⟨s, by simp [World.cell?, hs]⟩, by simp [World.frozen?, hs], (Array.getElem?_eq_some_iff.1 hs).1⟩

theorem Hist.of_block {w w' : World} {hb : Nat} {a : Option Addr} {n c cb : Nat} (h : Hist w hb a n c cb) (e : w'.heap[hb]? = w.heap[hb]?) : Hist w' hb a n c cb := by
  obtain ⟨s, hs⟩ := h
  exact ⟨s, e.trans hs⟩

theorem Hist.set {w : World} {hb : Nat} {a : Option Addr} {n c cb : Nat} (h : Hist w hb a n c cb) (s' : Nat) : Hist (w.setCell ⟨hb, 2, none⟩ (.float .f64 s')) hb a n c cb := by
  obtain ⟨s, hs⟩ := h
  exact ⟨s', by simpa using heap_setCell_same w hb 2 _ 36 (.float .f64 s') hs⟩

theorem counts_any (hb : Nat) (a : Option Addr) (n c cb : Nat) (w : World) (h : Hist w hb a n c cb) :
    Calls Try.prog 13 #[.pointer (some ⟨hb, 0, none⟩)] w fun e w' => e = .returned (.slice (some ⟨cb, 0, none⟩) n n) ∧ w' = w := by
  obtain ⟨-, h1, -⟩ := h.cells
  go_enter Try.func13, Try.ntmps13
  go_wp2
  go_ret
  exact ⟨rfl, rfl⟩

/-- All blocks but two are as they were. -/
structure Kept2 (b1 b2 : Nat) (w w' : World) : Prop where
  os : w'.os = w.os
  tape : w'.tape = w.tape
  output : w'.output = w.output
  size : w.heap.size ≤ w'.heap.size
  block : ∀ k, k < w.heap.size → k ≠ b1 → k ≠ b2 → w'.heap[k]? = w.heap[k]?

theorem Kept2.refl (b1 b2 : Nat) (w : World) : Kept2 b1 b2 w w := ⟨rfl, rfl, rfl, Nat.le_refl _, fun _ _ _ _ => rfl⟩
theorem Kept2.drew {b1 b2 : Nat} {w w' : World} (h : Kept2 b1 b2 w w') : Kept2 b1 b2 w w'.drew := ⟨h.os, h.tape, h.output, h.size, h.block⟩
theorem Kept2.setCell {b1 b2 : Nat} {w w' : World} (h : Kept2 b1 b2 w w') (p : Addr) (hp : p.block = b1 ∨ p.block = b2) (u : Value) : Kept2 b1 b2 w (w'.setCell p u) :=
  ⟨h.os, h.tape, h.output, by simpa [World.setCell] using h.size, fun k hk h1 h2 => (Below.heap_setCell _ _ _ _ (by rcases hp with e | e <;> rw [e] <;> assumption)).trans (h.block k hk h1 h2)⟩
theorem Kept2.below {b1 b2 B : Nat} {w w' : World} (h : Kept2 b1 b2 w w') (hB : B ≤ w.heap.size) (h1 : B ≤ b1) (h2 : B ≤ b2) : Below B w w' :=
  ⟨h.os, h.tape, h.output, h.size, fun k hk => h.block k (by omega) (by omega) (by omega)⟩

/-- What Observe does to the histogram: one bucket, the first whose bound is not less, is raised by one. -/
def Observed (X : Nat → Nat) (C : Nat → Int) (n v : Nat) (hb : Nat) (a : Option Addr) (c cb : Nat) (w w' : World) : Prop :=
  ∃ i, i < n ∧ (od (X i) v == some .lt) = false ∧ (∀ j, i = j + 1 → (od (X j) v == some .lt) = true) ∧
    w'.rowIs cb 34 n (fun j => .int .u64 (if j = i then IntKind.u64.wrap (C i + 1) else C j)) ∧ Hist w' hb a n c cb ∧ Kept2 cb hb w w'

theorem Observed.drew {X : Nat → Nat} {C : Nat → Int} {n v hb : Nat} {a : Option Addr} {c cb : Nat} {w w' : World} (h : Observed X C n v hb a c cb w w') : Observed X C n v hb a c cb w w'.drew := by
  obtain ⟨i, h1, h2, h3, h4, h5, h6⟩ := h
  exact ⟨i, h1, h2, h3, h4.drew, h5.of_block rfl, h6.drew⟩

set_option maxHeartbeats 1000000 in
theorem observe_any (hb : Nat) (a : Option Addr) (n c cb v : Nat) (X : Nat → Nat) (C : Nat → Int) (w : World) (hn : n ≤ 65536) (hH : Hist w hb a n c cb) (hs : Sl w a n (fun i => Value.float .f64 (X i)))
    (hrow : w.rowIs cb 34 n (fun j => .int .u64 (C j))) (hne : cb ≠ hb) (hV : Valid X n n) :
    Calls Try.prog 12 #[.pointer (some ⟨hb, 0, none⟩), .float .f64 v] w fun e w' => e = .returned (.tuple #[]) ∧ Observed X C n v hb a c cb w w' := by
  obtain ⟨h0, h1, ⟨s, h2⟩, f2, hlt⟩ := hH.cells
  have hse := search_any a n c v X w hn hs hV.2.2.1
  have HK : Hid (Hist w hb a n c cb ∧ w.rowIs cb 34 n (fun j => .int .u64 (C j)) ∧ Valid X n n) := ⟨hH, hrow, hV⟩
  clear hH hs hrow hV
  go_enter Try.func12, Try.ntmps12
  go_wp2_with fail
  refine hse.mono ?_
  clear hse
  rintro e w' ⟨⟨i, b, rfl, hi, g1, g2⟩, rfl⟩
  have hin : i < n := by
    by_cases h : i < n
    · exact h
    · exfalso
      obtain ⟨v1, -, -, -, v5⟩ := HK.out.2.2
      have e1 := g2 (n - 1) (by omega)
      have e2 := above_max (X (n - 1)) v v5
      rw [e1] at e2
      cases e2
  have ci : w.cell? ⟨cb, i, none⟩ = some (.int .u64 (C i)) := HK.out.2.1.cell hin
  have fi : w.frozen? ⟨cb, i, none⟩ = false := HK.out.2.1.frozen i
  have hil : (i : Int) < (n : Int) := by omega
  have HG : Hid ((od (X i) v == some .lt) = false ∧ ∀ j, i = j + 1 → (od (X j) v == some .lt) = true) := ⟨g1 hin, g2⟩
  clear g1 g2
  have hne' : hb ≠ cb := fun h => hne h.symm
  have HF : Hid (∀ s' W, W = (w.setCell ⟨cb, i, none⟩ (.int .u64 (IntKind.u64.wrap (C i + 1)))).setCell ⟨hb, 2, none⟩ (.float .f64 s') → Observed X C n v hb a c cb w W) := by
    intro s' W hW
    subst hW
    refine ⟨i, hin, HG.out.1, HG.out.2, ?_, ?_, ?_⟩
    · refine ((HK.out.2.1.set i _).setOther (by simpa using hne) _).congr (fun j _ => ?_)
      by_cases e : j = i
      · rw [if_pos e, if_pos e]
      · rw [if_neg e, if_neg e]
    · exact (HK.out.1.of_block (Below.heap_setCell _ _ _ _ (by simpa using hne'))).set s'
    · exact ((Kept2.refl cb hb w).setCell ⟨cb, i, none⟩ (Or.inl rfl) _).setCell ⟨hb, 2, none⟩ (Or.inr rfl) _
  rcases add_run 24 s v with ⟨r, hr⟩ | hr
  · go_wp2
    go_end0
    exact ⟨rfl, HF.out r _ rfl⟩
  · go_wp2
    go_end0
    exact ⟨rfl, (HF.out _ _ rfl).drew⟩

end Go.Proofs.Qxb6001769a
