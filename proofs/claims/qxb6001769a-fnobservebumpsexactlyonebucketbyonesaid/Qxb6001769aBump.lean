/-
  The walk of FnObserveBumpsExactlyOneBucketByOne.
-/
import Derived.Test.Qxb6001769aWalks
namespace Go.Proofs.Qxb6001769a
open Go.RowKit
attribute [local go_sem] run_store_float

/-- The counts with bucket i raised by one. -/
def bumped (C : Nat → Int) (i j : Nat) : Int := if j = i then IntKind.u64.wrap (C i + 1) else C j

def InU64 (C : Nat → Int) : Prop := ∀ j, 0 ≤ C j ∧ C j ≤ 18446744073709551615

theorem bumped_in {C : Nat → Int} (h : InU64 C) (i : Nat) : InU64 (bumped C i) := by
  intro j
  unfold bumped
  by_cases e : j = i
  · rw [if_pos e, IntKind.wrap_u64]; omega
  · rw [if_neg e]; exact h j

theorem bumped_ne {C : Nat → Int} (h : InU64 C) (i : Nat) : (bumped C i i != C i) = true := by
  have := h i
  unfold bumped
  rw [if_pos rfl, IntKind.wrap_u64, bne_iff_ne]
  omega

theorem bumped_one {C : Nat → Int} (h : InU64 C) (i : Nat) : (IntKind.u64.wrap (bumped C i i - C i) != 1) = false := by
  have := h i
  unfold bumped
  rw [if_pos rfl, IntKind.wrap_u64, IntKind.wrap_u64]
  have e : ((C i + 1) % 18446744073709551616 - C i) % 18446744073709551616 = 1 := by omega
  rw [e]; rfl

theorem bumped_same {C : Nat → Int} (i j : Nat) (h : j ≠ i) : (bumped C i j != C j) = false := by
  unfold bumped
  rw [if_neg h]; simp

set_option maxRecDepth 100000 in
set_option maxHeartbeats 4000000 in
theorem bump_main (a1 a2 a3 : Option Addr) (n1 c1 n2 c2 n3 c3 : Nat) (X V : Nat → Nat) (C : Nat → Int) (w : World)
    (hX : Sl w a1 n1 (fun i => Value.float .f64 (X i))) (hC : Sl w a2 n2 (fun i => Value.int .u64 (C i))) (hV : Sl w a3 n3 (fun i => Value.float .f64 (V i))) (hnil : a3 = none → n3 = 0 ∧ c3 = 0) (hR : InU64 C) :
    Calls Try.prog 5 #[.slice a1 n1 c1, .slice a2 n2 c2, .slice a3 n3 c3] w fun e w' => e = .returned (.bool true) ∧ Below w.heap.size w w' := by
  have HX : Hid (Sl w a1 n1 (fun i => Value.float .f64 (X i)) ∧ Sl w a2 n2 (fun i => Value.int .u64 (C i)) ∧ Sl w a3 n3 (fun i => Value.float .f64 (V i)) ∧ (a3 = none → n3 = 0 ∧ c3 = 0) ∧ InU64 C) := ⟨hX, hC, hV, hnil, hR⟩
  clear hX hC hV hnil hR
  go_enter Try.func5, Try.ntmps5
  go_wp2_with fail
  refine (bytes15_any _ _ _ _ _ _ _ _ _ _).mono ?_
  rintro e w' ⟨⟨r, rfl⟩, rfl⟩
  cases r with
  | false =>
    go_wp2
    go_ret
    exact ⟨rfl, Below.refl _ _⟩
  | true =>
    go_wp2_with fail
    refine (size_any _ _ _ _ _ _ _ _ _ _).mono ?_
    rintro e w' ⟨⟨r, rfl, hsm⟩, rfl⟩
    cases r with
    | false =>
      clear hsm
      go_wp2
      go_ret
      exact ⟨rfl, Below.refl _ _⟩
    | true =>
      obtain ⟨hn1, hn2, hn3⟩ := hsm rfl
      clear hsm
      have hva := valid_any a1 a2 n1 c1 n2 c2 X w hn1 hn2 HX.out.1
      go_wp2_with fail
      · go_ret
        exact ⟨rfl, Below.refl _ _⟩
      refine hva.mono ?_
      clear hva
      rintro e wv ⟨⟨r, rfl, hval⟩, hbv⟩
      cases r with
      | false =>
        have HB : Hid (Below w.heap.size w wv) := hbv
        clear hval hbv
        go_wp2
        go_ret
        exact ⟨rfl, HB.out⟩
      | true =>
        have hV := hval rfl
        clear hval
        obtain rfl : n2 = n1 := hV.2.1
        have HB : Hid (Below w.heap.size w wv) := hbv
        have HV : Hid (Valid X n2 n2) := hV
        have hpos : 0 < n2 := hV.1
        have hwv : w.heap.size ≤ wv.heap.size := hbv.size
        clear hbv hV
        obtain ⟨bx, ox, rfl, -⟩ := HX.out.1 0 hpos
        obtain ⟨bc, oc, rfl, -⟩ := HX.out.2.1 0 hpos
        have hcl := clone9_some ⟨bx, ox, none⟩ n2 c1 X wv (by omega) (HX.out.1.below HB.out)
        go_wp2_with fail
        refine hcl.mono ?_
        clear hcl
        rintro e w1 ⟨rfl, r1, b1⟩
        have K1 : Hid (Below w.heap.size w w1 ∧ Sl w1 (some ⟨bc, oc, none⟩) n2 (fun i => Value.int .u64 (C i)) ∧ Sl w1 a3 n3 (fun i => Value.float .f64 (V i)) ∧ w1.rowIs wv.heap.size 24 n2 (fun i => .float .f64 (X i))) :=
          ⟨HB.out.trans (b1.mono HB.out.size), (HX.out.2.1.below HB.out).below b1, (HX.out.2.2.1.below HB.out).below b1, r1⟩
        have HN : Hid ((a3 = none → n3 = 0 ∧ c3 = 0) ∧ InU64 C) := HX.out.2.2.2
        clear r1 b1 HB HX
        have hcl := clone10_some ⟨bc, oc, none⟩ n2 c2 C w1 (by omega) K1.out.2.1
        go_wp2_with fail
        refine hcl.mono ?_
        clear hcl
        rintro e w2 ⟨rfl, r2, b2⟩
        have K2 : Hid (Below w.heap.size w w2 ∧ Sl w2 a3 n3 (fun i => Value.float .f64 (V i)) ∧ w2.rowIs wv.heap.size 24 n2 (fun i => .float .f64 (X i)) ∧ w2.rowIs w1.heap.size 34 n2 (fun i => .int .u64 (C i))) :=
          ⟨K1.out.1.trans (b2.mono K1.out.1.size), K1.out.2.2.1.below b2, rowIs_below K1.out.2.2.2 b2, r2⟩
        clear r2 b2 K1
        have hcl := clone9_any a3 n3 c3 V w2 (by omega) HN.out.1 K2.out.2.1
        go_wp2_with fail
        refine hcl.mono ?_
        clear hcl
        rintro e w3 ⟨av, cv, rfl, sV, -, b3⟩
        have K3 : Hid (Below w.heap.size w w3 ∧ Sl w3 av n3 (fun i => Value.float .f64 (V i)) ∧ w3.rowIs wv.heap.size 24 n2 (fun i => .float .f64 (X i)) ∧ w3.rowIs w1.heap.size 34 n2 (fun i => .int .u64 (C i))) :=
          ⟨K2.out.1.trans (b3.mono K2.out.1.size), sV, rowIs_below K2.out.2.2.1 b3, rowIs_below K2.out.2.2.2 b3⟩
        clear sV b3 K2
        have hcl := clone9_some ⟨wv.heap.size, 0, none⟩ n2 n2 X w3 (by omega) (Sl.ofRow K3.out.2.2.1)
        go_wp2_with fail
        refine hcl.mono ?_
        clear hcl
        rintro e w4 ⟨rfl, r4, b4⟩
        have K4 : Hid (Below w.heap.size w w4 ∧ Sl w4 av n3 (fun i => Value.float .f64 (V i)) ∧ w4.rowIs w1.heap.size 34 n2 (fun i => .int .u64 (C i)) ∧ w4.rowIs w3.heap.size 24 n2 (fun i => .float .f64 (X i))) :=
          ⟨K3.out.1.trans (b4.mono K3.out.1.size), K3.out.2.1.below b4, rowIs_below K3.out.2.2.2 b4, r4⟩
        clear r4 b4 K3
        have hcl := clone10_some ⟨w1.heap.size, 0, none⟩ n2 n2 C w4 (by omega) (Sl.ofRow K4.out.2.2.1)
        go_wp2_with fail
        refine hcl.mono ?_
        clear hcl
        rintro e w5 ⟨rfl, r5, b5⟩
        go_wp2_with fail
        refine (new_any _ _ _ _ _ _ _ _).mono ?_
        rintro e w6 ⟨rfl, hw6⟩
        have hl5 : w4.heap.size < w5.heap.size := r5.lt
        have hl6 : w5.heap.size < w6.heap.size := by rw [hw6]; simp
        have K6 : Hid (∃ Cc, InU64 Cc ∧ w6.rowIs w4.heap.size 34 n2 (fun j => .int .u64 (Cc j)) ∧ Hist w6 w5.heap.size (some ⟨w3.heap.size, 0, none⟩) n2 n2 w4.heap.size ∧ Below w4.heap.size w4 w6) := by
          subst hw6
          exact ⟨C, HN.out.2, r5.alloc _, ⟨0, heap_alloc_new w5 _⟩, b5.trans ((Below.refl _ _).alloc (by omega) _)⟩
        clear hw6 r5 b5 HN
        have hl3 : w3.heap.size < w4.heap.size := K4.out.2.2.2.lt
        go_wp2
        go_loopw [8] (fun iv wr => ∃ k : Nat, k ≤ n3 ∧ iv = .int .i64 k ∧ Hid (∃ Cc, InU64 Cc ∧ wr.rowIs w4.heap.size 34 n2 (fun j => .int .u64 (Cc j)) ∧ Hist wr w5.heap.size (some ⟨w3.heap.size, 0, none⟩) n2 n2 w4.heap.size ∧ Below w4.heap.size w4 wr)) (fun iv _ => n3 - (intOf iv).toNat)
        case atStart => exact ⟨0, Nat.zero_le _, rfl, K6⟩
        case round =>
          clear K6
          obtain ⟨k, hk, rfl, HC⟩ := hrel
          by_cases hlt : k < n3
          · obtain ⟨Cc, hR, hrow, hH, hbel⟩ := HC.out
            clear HC
            have hsz : w5.heap.size < wr.heap.size := hH.cells.2.2.2.2
            have hco := counts_any w5.heap.size (some ⟨w3.heap.size, 0, none⟩) n2 n2 w4.heap.size wr hH
            have hcl := clone10_some ⟨w4.heap.size, 0, none⟩ n2 n2 Cc wr (by omega) (Sl.ofRow hrow)
            have HC : Hid (InU64 Cc ∧ wr.rowIs w4.heap.size 34 n2 (fun j => .int .u64 (Cc j)) ∧ Hist wr w5.heap.size (some ⟨w3.heap.size, 0, none⟩) n2 n2 w4.heap.size ∧ Below w4.heap.size w4 wr) := ⟨hR, hrow, hH, hbel⟩
            clear hR hrow hH hbel
            go_wp2_with fail
            refine hco.mono ?_
            clear hco
            rintro e wr' ⟨rfl, hwr'⟩
            subst hwr'
            go_wp2_with fail
            refine hcl.mono ?_
            clear hcl
            rintro e wa ⟨rfl, ra, ba⟩
            obtain ⟨hR, hrow, hH, hbel⟩ := HC.out
            clear HC
            have hHa : Hist wa w5.heap.size (some ⟨w3.heap.size, 0, none⟩) n2 n2 w4.heap.size := hH.of_block (ba.block _ (by omega))
            have hrowa := rowIs_below hrow ba
            have hbela : Below w4.heap.size w4 wa := hbel.trans (ba.mono (by omega))
            have hXa : Sl wa (some ⟨w3.heap.size, 0, none⟩) n2 (fun i => Value.float .f64 (X i)) := Sl.ofRow (rowIs_below K4.out.2.2.2 hbela)
            obtain ⟨bv, ov, rfl, cV⟩ := (K4.out.2.1.below hbela) k hlt
            have hob := observe_any w5.heap.size (some ⟨w3.heap.size, 0, none⟩) n2 n2 w4.heap.size (V k) X Cc wa (by omega) hHa hXa hrowa (by omega) HV.out
            have HA : Hid (InU64 Cc ∧ wa.rowIs wr'.heap.size 34 n2 (fun j => .int .u64 (Cc j)) ∧ Below w4.heap.size w4 wa) := ⟨hR, ra, hbela⟩
            have hsza : wr'.heap.size < wa.heap.size := ra.lt
            clear hR hrow hH hbel hHa hrowa hbela hXa ra ba
            go_wp2_with fail
            refine hob.mono ?_
            clear hob
            rintro e wb ⟨rfl, i, hi, -, -, rb, hHb, hkb⟩
            have hco := counts_any w5.heap.size (some ⟨w3.heap.size, 0, none⟩) n2 n2 w4.heap.size wb hHb
            have HW : Hid (InU64 Cc ∧ wb.rowIs wr'.heap.size 34 n2 (fun j => .int .u64 (Cc j)) ∧ wb.rowIs w4.heap.size 34 n2 (fun j => .int .u64 (bumped Cc i j)) ∧ Hist wb w5.heap.size (some ⟨w3.heap.size, 0, none⟩) n2 n2 w4.heap.size ∧ Below w4.heap.size w4 wb) :=
              ⟨HA.out.1, HA.out.2.1.of_block (hkb.block _ HA.out.2.1.lt (by omega) (by omega)), rb, hHb, HA.out.2.2.trans (hkb.below (by omega) (Nat.le_refl _) (by omega))⟩
            clear rb hHb hkb HA cV
            have hbn : ((n2 : Int) != (n2 : Int)) = false := by simp
            go_wp2_with fail
            refine hco.mono ?_
            clear hco
            rintro e wb' ⟨rfl, hwb'⟩
            subst hwb'
            go_wp2
            go_loopw [11, 12] (fun ch jv wq => ∃ q m : Nat, q ≤ n2 ∧ m ≤ 1 ∧ jv = .int .i64 q ∧ ch = .int .i64 m ∧ Hid (m = if i < q then 1 else 0) ∧ Hid (Below wb'.heap.size wb' wq)) (fun _ jv _ => n2 - (intOf jv).toNat)
            case atStart => exact ⟨0, 0, Nat.zero_le _, Nat.zero_le _, rfl, rfl, by simp [Hid], Below.refl _ _⟩
            case round =>
              obtain ⟨q, m, hq, hm1, rfl, rfl, HM, HB⟩ := hrel
              by_cases hql : q < n2
              · have cB : wr.cell? ⟨wr'.heap.size, q, none⟩ = some (.int .u64 (Cc q)) := (rowIs_below HW.out.2.1 HB.out).cell hql
                have cA : wr.cell? ⟨w4.heap.size, q, none⟩ = some (.int .u64 (bumped Cc i q)) := (rowIs_below HW.out.2.2.1 HB.out).cell hql
                have hl1 : (q : Int) < (n2 : Int) := by omega
                by_cases hqi : q = i
                · have t1 : (bumped Cc i q != Cc q) = true := by rw [hqi]; exact bumped_ne HW.out.1 i
                  have t2 : (IntKind.u64.wrap (bumped Cc i q - Cc q) != 1) = false := by rw [hqi]; exact bumped_one HW.out.1 i
                  have HM2 : Hid (m = 0 ∧ q = i) := by
                    have := HM.out
                    rw [if_neg (by omega)] at this
                    exact ⟨this, hqi⟩
                  clear hqi
                  go_wp2
                  go_quiet (fail)
                  go_wp2
                  go_quiet (fail)
                  go_wp2
                  go_roundw
                  case rel =>
                    obtain ⟨rfl, rfl⟩ := HM2.out
                    exact ⟨q + 1, 1, by omega, by omega, by go_num, by go_num, by rw [if_pos (by omega)]; exact (rfl : (1 : Nat) = 1), below_drewN HB.out _⟩
                  case measure => simp [intOf]; omega
                · have t1 : (bumped Cc i q != Cc q) = false := bumped_same i q hqi
                  have HM2 : Hid (m = if i < q + 1 then 1 else 0) := by
                    have := HM.out
                    by_cases hlt2 : i < q
                    · rw [if_pos hlt2] at this
                      rw [if_pos (by omega)]; exact this
                    · rw [if_neg hlt2] at this
                      rw [if_neg (by omega)]; exact this
                  clear hqi
                  go_wp2
                  go_quiet (fail)
                  go_wp2
                  go_roundw
                  case rel => exact ⟨q + 1, m, by omega, hm1, by go_num, rfl, HM2, below_drewN HB.out _⟩
                  case measure => simp [intOf]; omega
              · have hm : m = 1 := by
                  have := HM.out
                  rw [if_pos (by omega)] at this
                  exact this
                subst hm
                go_wp2
                go_roundw
                case rel =>
                  refine ⟨k + 1, by omega, by go_num, ⟨bumped Cc i, bumped_in HW.out.1 i, rowIs_below HW.out.2.2.1 HB.out, HW.out.2.2.2.1.of_block (HB.out.block _ HW.out.2.2.2.1.cells.2.2.2.2), HW.out.2.2.2.2.trans (HB.out.mono ?_)⟩⟩
                  exact Nat.le_of_lt HW.out.2.2.1.lt
                case measure => simp [intOf]; omega
          · go_wp2
            go_ret
            obtain ⟨Cc, hR, hrow, hH, hbel⟩ := HC.out
            exact ⟨rfl, K4.out.1.trans (hbel.mono K4.out.1.size)⟩

end Go.Proofs.Qxb6001769a
