/-
  The walk of FnObserveCountsInEveryCumulativeBucketAtOrAboveV.
-/
import Derived.Test.Qxb6001769aWalks
namespace Go.Proofs.Qxb6001769a
open Go.RowKit
attribute [local go_sem] run_store_float

/-- The sum of the first k counts, as the counter wraps. -/
def S (C : Nat → Int) : Nat → Int
  | 0 => 0
  | k + 1 => IntKind.u64.wrap (S C k + C k)

/-- The counts with bucket i raised by one. -/
def bump (C : Nat → Int) (i j : Nat) : Int := if j = i then IntKind.u64.wrap (C i + 1) else C j

theorem S_diff (C : Nat → Int) (i : Nat) : ∀ k, IntKind.u64.wrap (S (bump C i) k - S C k) = if i < k then 1 else 0 := by
  intro k
  induction k with
  | zero => simp [S, IntKind.wrap_u64]
  | succ k ih =>
    show IntKind.u64.wrap (IntKind.u64.wrap (S (bump C i) k + bump C i k) - IntKind.u64.wrap (S C k + C k)) = _
    simp only [IntKind.wrap_u64] at ih ⊢
    have hbk : bump C i k = if k = i then (C i + 1) % 18446744073709551616 else C k := by
      unfold bump; rw [IntKind.wrap_u64]
    rw [hbk]
    generalize S (bump C i) k = x at *
    generalize S C k = y at *
    by_cases e : k = i
    · subst e
      rw [if_neg (by omega)] at ih
      rw [if_pos rfl, if_pos (by omega)]
      omega
    · rw [if_neg e]
      by_cases h : i < k
      · rw [if_pos h] at ih
        rw [if_pos (by omega)]
        omega
      · rw [if_neg h] at ih
        rw [if_neg (by omega)]
        omega

/-- Below the found place every bound is less than v. -/
theorem all_less (X : Nat → Nat) (n v i : Nat) (hV : Valid X n n) (hi : i < n) (hf : ∀ j, i = j + 1 → (od (X j) v == some .lt) = true) : ∀ d j, j + 1 + d = i → (od (X j) v == some .lt) = true := by
  intro d
  induction d with
  | zero => intro j hj; exact hf j (by omega)
  | succ d ih =>
    intro j hj
    have h1 := ih (j + 1) (by omega)
    have h2 := le_lt (X j) (X (j + 1)) v (hV.2.2.2.1 j (by omega)) (by simpa using h1)
    rw [h2]; rfl

/-- From the found place on no bound is less than v. -/
theorem none_less (X : Nat → Nat) (n v i : Nat) (hV : Valid X n n) (hf : (od (X i) v == some .lt) = false) : ∀ d, i + d < n → (od (X (i + d)) v == some .lt) = false := by
  intro d
  induction d with
  | zero => intro _; exact hf
  | succ d ih =>
    intro hd
    have h0 := ih (by omega)
    rw [show i + (d + 1) = i + d + 1 from by omega]
    cases h : (od (X (i + d + 1)) v == some .lt) with
    | false => rfl
    | true =>
      have h2 := le_lt (X (i + d)) (X (i + d + 1)) v (hV.2.2.2.1 (i + d) (by omega)) (by simpa using h)
      rw [h2] at h0
      cases h0

theorem ge_bool (X : Nat → Nat) (n v i k : Nat) (hV : Valid X n n) (hv : od v v = some .eq) (hi : i < n) (hf1 : (od (X i) v == some .lt) = false) (hf2 : ∀ j, i = j + 1 → (od (X j) v == some .lt) = true) (hk : k < n) :
    (od (X k) v == some .gt || od (X k) v == some .eq) = decide (i ≤ k) := by
  rw [ge_not_lt (X k) v (hV.2.2.1 k hk) hv]
  by_cases h : i ≤ k
  · have := none_less X n v i hV hf1 (k - i) (by omega)
    rw [show i + (k - i) = k from by omega] at this
    rw [this, decide_eq_true h]; rfl
  · have := all_less X n v i hV hi hf2 (i - (k + 1)) k (by omega)
    rw [this, decide_eq_false h]; rfl

set_option maxRecDepth 100000 in
set_option maxHeartbeats 2000000 in
theorem cum_main (a1 a2 : Option Addr) (n1 c1 n2 c2 v : Nat) (X : Nat → Nat) (C : Nat → Int) (w : World)
    (hX : Sl w a1 n1 (fun i => Value.float .f64 (X i))) (hC : Sl w a2 n2 (fun i => Value.int .u64 (C i))) :
    Calls Try.prog 3 #[.slice a1 n1 c1, .slice a2 n2 c2, .float .f64 v] w fun e w' => e = .returned (.bool true) ∧ Below w.heap.size w w' := by
  have HX : Hid (Sl w a1 n1 (fun i => Value.float .f64 (X i)) ∧ Sl w a2 n2 (fun i => Value.int .u64 (C i))) := ⟨hX, hC⟩
  clear hX hC
  go_enter Try.func3, Try.ntmps3
  go_wp2_with fail
  refine (bytes6_any _ _ _ _ _ _ _ _).mono ?_
  rintro e w' ⟨⟨r, rfl⟩, rfl⟩
  cases r with
  | false =>
    go_wp2
    go_ret
    exact ⟨rfl, Below.refl _ _⟩
  | true =>
    go_wp2_with fail
    refine (size_any _ _ _ _ _ _ _ _ _ _).mono ?_
    rintro e w' ⟨⟨r, rfl, hsm⟩, rfl⟩
    cases r with
    | false =>
      clear hsm
      go_wp2
      go_ret
      exact ⟨rfl, Below.refl _ _⟩
    | true =>
      obtain ⟨hn1, hn2, -⟩ := hsm rfl
      clear hsm
      have hva := valid_any a1 a2 n1 c1 n2 c2 X w hn1 hn2 HX.out.1
      go_wp2_with fail
      refine hva.mono ?_
      clear hva
      rintro e wv ⟨⟨r, rfl, hval⟩, hbv⟩
      cases r with
      | false =>
        have HB : Hid (Below w.heap.size w wv) := hbv
        clear hval hbv
        go_wp2
        go_ret
        exact ⟨rfl, HB.out⟩
      | true =>
        have hV := hval rfl
        clear hval
        obtain rfl : n2 = n1 := hV.2.1
        have HB : Hid (Below w.heap.size w wv) := hbv
        have HV : Hid (Valid X n2 n2) := hV
        have hpos : 0 < n2 := hV.1
        have hwv : w.heap.size ≤ wv.heap.size := hbv.size
        clear hbv hV
        by_cases hvv : od v v = some .eq
        · have ev : (FloatKind.f64.format.order v v != some .eq) = false := by
            rw [show FloatKind.f64.format.order v v = some .eq from hvv]; rfl
          have HVV : Hid (od v v = some .eq) := hvv
          clear hvv
          obtain ⟨bx, ox, rfl, -⟩ := HX.out.1 0 hpos
          obtain ⟨bc, oc, rfl, -⟩ := HX.out.2 0 hpos
          have hcl := clone9_some ⟨bx, ox, none⟩ n2 c1 X wv (by omega) (HX.out.1.below HB.out)
          go_wp2_with fail
          refine hcl.mono ?_
          clear hcl
          rintro e w1 ⟨rfl, r1, b1⟩
          have K1 : Hid (Below w.heap.size w w1 ∧ Sl w1 (some ⟨bc, oc, none⟩) n2 (fun i => Value.int .u64 (C i)) ∧ w1.rowIs wv.heap.size 24 n2 (fun i => .float .f64 (X i))) :=
            ⟨HB.out.trans (b1.mono HB.out.size), (HX.out.2.below HB.out).below b1, r1⟩
          clear r1 b1 HB HX
          have hcl := clone10_some ⟨bc, oc, none⟩ n2 c2 C w1 (by omega) K1.out.2.1
          go_wp2_with fail
          refine hcl.mono ?_
          clear hcl
          rintro e w2 ⟨rfl, r2, b2⟩
          have K2 : Hid (Below w.heap.size w w2 ∧ w2.rowIs wv.heap.size 24 n2 (fun i => .float .f64 (X i)) ∧ w2.rowIs w1.heap.size 34 n2 (fun i => .int .u64 (C i))) :=
            ⟨K1.out.1.trans (b2.mono K1.out.1.size), rowIs_below K1.out.2.2 b2, r2⟩
          clear r2 b2 K1
          have hcl := clone10_some ⟨w1.heap.size, 0, none⟩ n2 n2 C w2 (by omega) (Sl.ofRow K2.out.2.2)
          go_wp2_with fail
          refine hcl.mono ?_
          clear hcl
          rintro e w3 ⟨rfl, r3, b3⟩
          have K3 : Hid (Below w.heap.size w w3 ∧ w3.rowIs wv.heap.size 24 n2 (fun i => .float .f64 (X i)) ∧ w3.rowIs w1.heap.size 34 n2 (fun i => .int .u64 (C i)) ∧ w3.rowIs w2.heap.size 34 n2 (fun i => .int .u64 (C i))) :=
            ⟨K2.out.1.trans (b3.mono K2.out.1.size), rowIs_below K2.out.2.1 b3, rowIs_below K2.out.2.2 b3, r3⟩
          clear r3 b3 K2
          have hcl := clone9_some ⟨wv.heap.size, 0, none⟩ n2 n2 X w3 (by omega) (Sl.ofRow K3.out.2.1)
          go_wp2_with fail
          refine hcl.mono ?_
          clear hcl
          rintro e w4 ⟨rfl, r4, b4⟩
          have K4 : Hid (Below w.heap.size w w4 ∧ w4.rowIs wv.heap.size 24 n2 (fun i => .float .f64 (X i)) ∧ w4.rowIs w1.heap.size 34 n2 (fun i => .int .u64 (C i)) ∧ w4.rowIs w2.heap.size 34 n2 (fun i => .int .u64 (C i)) ∧
              w4.rowIs w3.heap.size 24 n2 (fun i => .float .f64 (X i))) :=
            ⟨K3.out.1.trans (b4.mono K3.out.1.size), rowIs_below K3.out.2.1 b4, rowIs_below K3.out.2.2.1 b4, rowIs_below K3.out.2.2.2 b4, r4⟩
          clear r4 b4 K3
          have hcl := clone10_some ⟨w1.heap.size, 0, none⟩ n2 n2 C w4 (by omega) (Sl.ofRow K4.out.2.2.1)
          go_wp2_with fail
          refine hcl.mono ?_
          clear hcl
          rintro e w5 ⟨rfl, r5, b5⟩
          have K5 : Hid (Below w.heap.size w w5 ∧ w5.rowIs wv.heap.size 24 n2 (fun i => .float .f64 (X i)) ∧ w5.rowIs w2.heap.size 34 n2 (fun i => .int .u64 (C i)) ∧
              w5.rowIs w3.heap.size 24 n2 (fun i => .float .f64 (X i)) ∧ w5.rowIs w4.heap.size 34 n2 (fun i => .int .u64 (C i)) ∧ wv.heap.size < w4.heap.size ∧ w2.heap.size < w4.heap.size ∧ w3.heap.size < w4.heap.size) :=
            ⟨K4.out.1.trans (b5.mono K4.out.1.size), rowIs_below K4.out.2.1 b5, rowIs_below K4.out.2.2.2.1 b5, rowIs_below K4.out.2.2.2.2 b5, r5, K4.out.2.1.lt, K4.out.2.2.2.1.lt, K4.out.2.2.2.2.lt⟩
          clear r5 b5 K4
          go_wp2_with fail
          refine (new_any _ _ _ _ _ _ _ _).mono ?_
          rintro e w6 ⟨rfl, hw6⟩
          obtain ⟨kb, kX, kB, kX2, kC, l1, l2, l3⟩ := K5.out
          have hl5 : w4.heap.size < w5.heap.size := kC.lt
          have hH : Hist w6 w5.heap.size (some ⟨w3.heap.size, 0, none⟩) n2 n2 w4.heap.size := by
            subst hw6
            exact ⟨0, heap_alloc_new w5 _⟩
          have hb6 : Below w5.heap.size w5 w6 := by subst hw6; exact (Below.refl _ _).alloc (Nat.le_refl _) _
          have hsz6 : w5.heap.size ≤ w6.heap.size := hb6.size
          have hob := observe_any w5.heap.size (some ⟨w3.heap.size, 0, none⟩) n2 n2 w4.heap.size v X C w6 (by omega) hH (Sl.ofRow (rowIs_below kX2 hb6)) (rowIs_below kC hb6) (by omega) HV.out
          have K6 : Hid (Below w.heap.size w w6 ∧ w6.rowIs wv.heap.size 24 n2 (fun i => .float .f64 (X i)) ∧ w6.rowIs w2.heap.size 34 n2 (fun i => .int .u64 (C i))) :=
            ⟨kb.trans (hb6.mono kb.size), rowIs_below kX hb6, rowIs_below kB hb6⟩
          clear hw6 kb kX kB kX2 kC hH hb6 K5
          go_wp2_with fail
          refine hob.mono ?_
          clear hob
          rintro e w7 ⟨rfl, i, hi, g1, g2, rw7, hH7, hk7⟩
          have hge : Hid (∀ k, k < n2 → (od (X k) v == some .gt || od (X k) v == some .eq) = decide (i ≤ k)) := fun k hk => ge_bool X n2 v i k HV.out HVV.out hi g1 g2 hk
          have K7 : Hid (Below w.heap.size w w7 ∧ w7.rowIs wv.heap.size 24 n2 (fun i => .float .f64 (X i)) ∧ w7.rowIs w2.heap.size 34 n2 (fun i => .int .u64 (C i)) ∧ w7.rowIs w4.heap.size 34 n2 (fun j => .int .u64 (bump C i j))) := by
            have hl4 : w.heap.size ≤ w4.heap.size := by omega
            refine ⟨K6.out.1.trans (hk7.below (by omega) hl4 (by omega)), K6.out.2.1.of_block (hk7.block _ K6.out.2.1.lt (by omega) (by omega)), K6.out.2.2.of_block (hk7.block _ K6.out.2.2.lt (by omega) (by omega)), rw7⟩
          have hco := counts_any w5.heap.size (some ⟨w3.heap.size, 0, none⟩) n2 n2 w4.heap.size w7 hH7
          clear g1 g2 rw7 hH7 hk7 K6 HV HVV
          go_wp2_with fail
          refine hco.mono ?_
          clear hco
          rintro e w8 ⟨rfl, rfl⟩
          have hbn : ((n2 : Int) != (n2 : Int)) = false := by simp
          go_wp2
          go_loop [10, 11, 12] (fun cv av j => ∃ k : Nat, k ≤ n2 ∧ cv = .int .u64 (S C k) ∧ av = .int .u64 (S (bump C i) k) ∧ j = .int .i64 k) (fun _ _ j => n2 - (intOf j).toNat)
          case atStart => exact ⟨0, Nat.zero_le _, rfl, rfl, rfl⟩
          case round =>
            obtain ⟨k, hk, rfl, rfl, rfl⟩ := hrel
            by_cases hlt : k < n2
            · have cX : w8.cell? ⟨wv.heap.size, k, none⟩ = some (.float .f64 (X k)) := K7.out.2.1.cell hlt
              have cB : w8.cell? ⟨w2.heap.size, k, none⟩ = some (.int .u64 (C k)) := K7.out.2.2.1.cell hlt
              have cA : w8.cell? ⟨w4.heap.size, k, none⟩ = some (.int .u64 (bump C i k)) := K7.out.2.2.2.cell hlt
              have hdf := S_diff C i (k + 1)
              have hgk := hge.out k hlt
              by_cases hik : i ≤ k
              · rw [if_pos (by omega)] at hdf
                rw [decide_eq_true hik] at hgk
                have hne1 : (IntKind.u64.wrap (IntKind.u64.wrap (S (bump C i) k + bump C i k) - IntKind.u64.wrap (S C k + C k)) != 1) = false := by
                  rw [show IntKind.u64.wrap (IntKind.u64.wrap (S (bump C i) k + bump C i k) - IntKind.u64.wrap (S C k + C k)) = 1 from hdf]; rfl
                clear hdf
                go_wp2
                go_round
                case rel => exact ⟨k + 1, by omega, rfl, rfl, by go_num⟩
                case measure => simp [intOf]; omega
              · rw [if_neg (by omega)] at hdf
                rw [decide_eq_false hik] at hgk
                have hne1 : (IntKind.u64.wrap (IntKind.u64.wrap (S (bump C i) k + bump C i k) - IntKind.u64.wrap (S C k + C k)) != 0) = false := by
                  rw [show IntKind.u64.wrap (IntKind.u64.wrap (S (bump C i) k + bump C i k) - IntKind.u64.wrap (S C k + C k)) = 0 from hdf]; rfl
                clear hdf
                go_wp2
                go_round
                case rel => exact ⟨k + 1, by omega, rfl, rfl, by go_num⟩
                case measure => simp [intOf]; omega
            · go_wp2
              go_ret
              exact ⟨rfl, K7.out.1⟩
        · have ev : (FloatKind.f64.format.order v v != some .eq) = true := by
            rw [bne_iff_ne]; exact hvv
          clear hvv
          go_wp2
          go_ret
          exact ⟨rfl, HB.out⟩

end Go.Proofs.Qxb6001769a
