/-
  Seat b6001665a: the walk of FnAddEndKeepsEachOnceInFirstOrder.
-/
import Derived.Test.Qxb6001665aAddWalks
namespace Go.Proofs.Qxb6001665a
open Go.RowKit

theorem Sl.drewN {w : World} {a : Option Addr} {n : Nat} {f : Nat → Int} (h : Sl w a n f) (m : Nat) : Sl (w.drewN m) a n f := h

set_option maxRecDepth 100000 in
set_option maxHeartbeats 2000000 in
theorem add_main (a : Option Addr) (n c : Nat) (f : Nat → Int) (w : World) (hn : n ≤ 1024) (hs : Sl w a n f) (hnil : a = none → n = 0 ∧ c = 0) :
    Calls Try.prog 4 #[.slice a n c] w fun e w' => e = .returned (.bool true) ∧ Below w.heap.size w w' := by
  have hcl := clone_any a n c f w (by omega) hnil hs
  clear hs hnil
  go_enter Try.func4, Try.ntmps4
  go_wp2_with fail
  refine (bytes_any _ _ _ _).mono ?_
  rintro e w' ⟨⟨r, rfl⟩, rfl⟩
  cases r with
  | false =>
    go_wp2
    go_ret
    exact ⟨rfl, Below.refl _ _⟩
  | true =>
    go_wp2_with fail
    refine hcl.mono ?_
    clear hcl
    rintro e w1 ⟨a', c', rfl, sA, b1⟩
    have HA : Hid (Sl w1 a' n f ∧ Below w.heap.size w w1) := ⟨sA, b1⟩
    clear sA b1
    go_wp2
    go_loopw [3, 4] (fun v i wr => ∃ k : Nat, k ≤ n ∧ i = .int .i64 k ∧ Hid (wr.ownsRow w1.heap.size 3 1 v (dd f k).length ((dd f k).map (Value.int .i64))) ∧ Hid (Below w1.heap.size w1 wr)) (fun _ i _ => n - (intOf i).toNat)
    case atStart => exact ⟨0, Nat.zero_le _, rfl, World.ownsRow_nil _ _ _ _, Below.refl _ _⟩
    case round =>
      obtain ⟨k, hk, rfl, HO, HB⟩ := hrel
      obtain ⟨av, cv, rfl, sV, nV⟩ := own_form HO.out
      have hlen := dd_length f k
      by_cases hlt : k < n
      · obtain ⟨b, o, rfl, hc⟩ := (HA.out.1.below HB.out) k hlt
        by_cases hin : f k ∈ dd f k
        · have hz := zzAddEnd_in av cv (dd f k) (f k) wr (by omega) sV hin
          have HD : Hid (dd f (k + 1) = dd f k) := dd_in f k hin
          clear sV nV hin
          go_wp2_with fail
          refine hz.mono ?_
          clear hz
          rintro e w2 ⟨rfl, rfl⟩
          go_wp2
          go_roundw
          case rel => exact ⟨k + 1, by omega, by go_num, by rw [HD.out]; exact HO, HB⟩
          case measure => simp [intOf]; omega
        · have hz := zzAddEnd_out av cv (dd f k) (f k) wr w1.heap.size (by omega) sV hin HO.out HB.out.size
          have HD : Hid (dd f (k + 1) = dd f k ++ [f k]) := dd_out f k hin
          clear sV nV hin
          go_wp2_with fail
          refine hz.mono ?_
          clear hz
          rintro e w2 ⟨v2, rfl, hown2, hb2⟩
          have HO2 : Hid (w2.ownsRow w1.heap.size 3 1 v2 (dd f k ++ [f k]).length ((dd f k ++ [f k]).map (Value.int .i64))) := hown2
          have HB2 : Hid (Below w1.heap.size w1 w2) := HB.out.trans hb2
          clear hown2 hb2
          go_wp2
          go_roundw
          case rel => exact ⟨k + 1, by omega, by go_num, by rw [HD.out]; exact HO2, HB2⟩
          case measure => simp [intOf]; omega
      · obtain rfl : k = n := by omega
        have HX : Hid (Sl wr a' k f ∧ Sl wr av (dd f k).length (el (dd f k)) ∧ (av = none → (dd f k).length = 0 ∧ cv = 0) ∧ Below w.heap.size w wr) :=
          ⟨HA.out.1.below HB.out, sV, nV, HA.out.2.trans (HB.out.mono HA.out.2.size)⟩
        clear HO HB HA sV nV
        generalize hw2 : wr = w2 at *
        clear hw2 wr
        go_wp2
        go_loop [5] (fun i => ∃ q : Nat, q ≤ k ∧ i = .int .i64 q) (fun i => k - (intOf i).toNat)
        case atStart => exact ⟨0, Nat.zero_le _, rfl⟩
        case round =>
          obtain ⟨q, hq, rfl⟩ := hrel
          by_cases hql : q < k
          · obtain ⟨b, o, rfl, hc⟩ := HX.out.1 q hql
            have hi := indexOf_any av (dd f k).length cv (el (dd f k)) (f q) w2 (by omega) HX.out.2.1
            have hpos := dd_found f k q hql
            go_wp2_with fail
            refine hi.mono ?_
            clear hi
            rintro e w3 ⟨rfl, rfl⟩
            go_wp2
            go_round
            case rel => exact ⟨q + 1, by omega, by go_num⟩
            case measure => simp [intOf]; omega
          · obtain rfl : q = k := by omega
            go_wp2
            have P1 : Hid (∀ i, i < (dd f q).length → 0 ≤ idxF f (el (dd f q) i) q) := fun i hi => dd_from f q i hi
            have P2 : Hid (∀ i, i < (dd f q).length → idxF (el (dd f q)) (el (dd f q) i) (dd f q).length = i) := fun i hi => dd_self f q i hi
            have P3 : Hid (∀ i j, i < j → j < (dd f q).length → idxF f (el (dd f q) i) q < idxF f (el (dd f q) j) q) := fun i j hij hj => dd_lt f q i j hij hj
            have P4 : Hid (∀ i, i < q → f i ∈ dd f q) := fun i hi => dd_there f q i hi
            generalize dd f q = L at *
            go_loopw [6] (fun i wr => ∃ k : Nat, k ≤ L.length ∧ i = .int .i64 k ∧ Hid (Below w2.heap.size w2 wr)) (fun i _ => L.length - (intOf i).toNat)
            case atStart => exact ⟨0, Nat.zero_le _, rfl, Below.refl _ _⟩
            case round =>
              obtain ⟨k, hk3, rfl, HB⟩ := hrel
              by_cases hkl : k < L.length
              · have sX := HX.out.1.below HB.out
                have sL := HX.out.2.1.below HB.out
                obtain ⟨b, o, rfl, hc⟩ := sL k hkl
                have hi1 := indexOf_any a' q c' f (el L k) wr (by omega) sX
                have hi2 := indexOf_any (some ⟨b, o, none⟩) L.length cv (el L) (el L k) wr (by omega) sL
                have hp1 := P1.out k hkl
                have hp2 := P2.out k hkl
                rw [hp2] at hi2
                have hbn : ((k : Int) != (k : Int)) = false := by simp
                by_cases h0 : k = 0
                · have hc0 : wr.cell? ⟨b, o, none⟩ = some (.int .i64 (el L 0)) := by rw [h0] at hc; simpa using hc
                  subst h0
                  clear sX sL hp2
                  go_wp2_with fail
                  refine hi1.mono ?_
                  clear hi1
                  rintro e w3 ⟨rfl, rfl⟩
                  go_wp2_with fail
                  refine hi2.mono ?_
                  clear hi2
                  rintro e w3 ⟨rfl, rfl⟩
                  go_wp2
                  go_quiet (fail)
                  go_wp2
                  go_roundw
                  case rel => exact ⟨0 + 1, by omega, by go_num, below_drewN HB.out _⟩
                  case measure => simp [intOf]; omega
                · obtain ⟨j, rfl⟩ : ∃ j, k = j + 1 := ⟨k - 1, by omega⟩
                  have hcj : wr.cell? ⟨b, o + j, none⟩ = some (.int .i64 (el L j)) := by
                    obtain ⟨b', o', e, h⟩ := sL j (by omega)
                    simp only [Option.some.injEq, Addr.mk.injEq, and_true] at e
                    obtain ⟨rfl, rfl⟩ := e
                    exact h
                  have hp3 := P3.out j (j + 1) (by omega) hkl
                  have hl1 : (j : Int) + 1 < (L.length : Int) := by omega
                  have hl2 : (j : Int) < (L.length : Int) := by omega
                  have HQ : Hid (∀ (x : Int) (m : Nat), Calls Try.prog 19 #[.slice a' q c', .int .i64 x] (wr.drewN m) fun e w' => e = .returned (.int .i64 (idxF f x q)) ∧ w' = wr.drewN m) :=
                    fun x m => indexOf_any a' q c' f x (wr.drewN m) (by omega) (sX.drewN m)
                  clear sX sL hp2 h0
                  go_wp2_with fail
                  refine hi1.mono ?_
                  clear hi1
                  rintro e w3 ⟨rfl, rfl⟩
                  go_wp2_with fail
                  refine hi2.mono ?_
                  clear hi2
                  rintro e w3 ⟨rfl, rfl⟩
                  go_wp2_with fail
                  go_quiet ((go_at_call 19; exact Calls.quiet_of_same (HQ.out _ _)))
                  go_wp2
                  go_roundw
                  case rel => exact ⟨j + 1 + 1, by omega, by go_num, below_drewN HB.out _⟩
                  case measure => simp [intOf]; omega
              · obtain rfl : k = L.length := by omega
                have hcl := clone_any av L.length cv (el L) wr (by omega) HX.out.2.2.1 (HX.out.2.1.below HB.out)
                go_wp2_with fail
                refine hcl.mono ?_
                clear hcl
                rintro e w4 ⟨asn, csn, rfl, sS, b4⟩
                have HY : Hid (Sl w4 a' q f ∧ Sl w4 av L.length (el L) ∧ Sl w4 asn L.length (el L) ∧ Below w.heap.size w w4) :=
                  ⟨(HX.out.1.below HB.out).below b4, (HX.out.2.1.below HB.out).below b4, sS, (HX.out.2.2.2.trans (HB.out.mono HX.out.2.2.2.size)).trans (b4.mono (Nat.le_trans HX.out.2.2.2.size HB.out.size))⟩
                clear sS b4 HB HX P1 P2 P3
                go_wp2
                go_loop [3, 8] (fun v i => v = .slice av L.length cv ∧ ∃ j : Nat, j ≤ q ∧ i = .int .i64 j) (fun _ i => q - (intOf i).toNat)
                case atStart => exact ⟨rfl, 0, Nat.zero_le _, rfl⟩
                case round =>
                  obtain ⟨rfl, j, hj, rfl⟩ := hrel
                  by_cases hjl : j < q
                  · obtain ⟨b, o, rfl, hc⟩ := HY.out.1 j hjl
                    have hz := zzAddEnd_in av cv L (f j) w4 (by omega) HY.out.2.1 (P4.out j hjl)
                    go_wp2_with fail
                    refine hz.mono ?_
                    clear hz
                    rintro e w5 ⟨rfl, rfl⟩
                    go_wp2
                    go_round
                    case rel => exact ⟨rfl, j + 1, by omega, by go_num⟩
                    case measure => simp [intOf]; omega
                  · have hbn : ((L.length : Int) != (L.length : Int)) = false := by simp
                    go_wp2
                    go_loopw [9] (fun i wr => ∃ k : Nat, k ≤ L.length ∧ i = .int .i64 k ∧ Hid (Below w4.heap.size w4 wr)) (fun i _ => L.length - (intOf i).toNat)
                    case atStart => exact ⟨0, Nat.zero_le _, rfl, Below.refl _ _⟩
                    case round =>
                      obtain ⟨k, hk5, rfl, HB⟩ := hrel
                      by_cases hkl5 : k < L.length
                      · obtain ⟨b, o, rfl, hc⟩ := (HY.out.2.1.below HB.out) k hkl5
                        obtain ⟨b', o', rfl, hc'⟩ := (HY.out.2.2.1.below HB.out) k hkl5
                        have hl1 : (k : Int) < (L.length : Int) := by omega
                        have hbn2 : (el L k != el L k) = false := by simp
                        go_wp2
                        go_quiet (fail)
                        go_wp2
                        go_roundw
                        case rel => exact ⟨k + 1, by omega, by go_num, below_drewN HB.out _⟩
                        case measure => simp [intOf]; omega
                      · go_wp2
                        go_ret
                        exact ⟨rfl, HY.out.2.2.2.trans (HB.out.mono HY.out.2.2.2.size)⟩

set_option maxHeartbeats 400000 in
theorem add_long (a : Option Addr) (n c : Nat) (w : World) (hn : 1024 < n) :
    Calls Try.prog 4 #[.slice a n c] w fun e w' => e = .returned (.bool true) ∧ Below w.heap.size w w' := by
  go_enter Try.func4, Try.ntmps4
  go_wp2_with fail
  refine (bytes_any _ _ _ _).mono ?_
  rintro e w' ⟨⟨r, rfl⟩, rfl⟩
  cases r with
  | false =>
    go_wp2
    go_ret
    exact ⟨rfl, Below.refl _ _⟩
  | true =>
    go_wp2
    go_ret
    exact ⟨rfl, Below.refl _ _⟩

end Go.Proofs.Qxb6001665a
