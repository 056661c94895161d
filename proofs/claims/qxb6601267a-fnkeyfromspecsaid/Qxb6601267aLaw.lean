/-
  The walks of seat b6601267a, part 5: the law.
-/
import Derived.Test.Qxb6601267aZZ
namespace Go.Proofs.Qxb6601267a
open Go.RowKit

theorem bne_false {a b : Int} (h : a = b) : (a != b) = false := by simp [h]
theorem castDiv (ky e : Nat) : ((ky / 2 ^ e % 256 : Nat) : Int) = (ky : Int) / 2 ^ e % 256 := by
  rw [Int.natCast_emod, Int.natCast_ediv, Int.natCast_pow]; rfl

set_option maxRecDepth 100000 in
set_option maxHeartbeats 4000000 in
theorem law_main (s : ByteArray) (ae aa ak al : Option Addr) (n ce m ca ck cl : Nat) (E : Nat → Nat) (K : Nat → Int) (A : Nat → Nat) (L : Nat → Bool) (d : Nat) (w : World)
    (hsz : s.size ≤ 262144) (hn : n ≤ 32768) (hm : m ≤ 16384) (hd : d ≤ s.size)
    (hE : Sl w ae n (fun i => Value.int .u32 ((E i : Nat) : Int))) (hE0 : ae = none → n = 0 ∧ ce = 0) (hE1 : ∀ i, E i < 4294967296)
    (hAs : Sl w aa m (fun i => Value.int .u32 ((A i : Nat) : Int))) (hA0 : aa = none → m = 0 ∧ ca = 0) (hA1 : ∀ i, A i < 4294967296)
    (hKs : Sl w ak m (fun i => Value.int .u64 (K i))) (hK0 : ak = none → m = 0 ∧ ck = 0) (hLs : Sl w al m (fun i => Value.bool (L i))) (hL0 : al = none → m = 0 ∧ cl = 0) :
    Calls Try.prog 6 #[.string s, .slice ae n ce, .slice aa m ca, .slice ak m ck, .slice al m cl, .int .i64 d] w fun e w' => e = .returned (.bool true) ∧ Below w.heap.size w w' := by
  have HE : Hid (Sl w ae n (fun i => Value.int .u32 ((E i : Nat) : Int)) ∧ (ae = none → n = 0 ∧ ce = 0)) := ⟨hE, hE0⟩
  have HAs : Hid (Sl w aa m (fun i => Value.int .u32 ((A i : Nat) : Int)) ∧ (aa = none → m = 0 ∧ ca = 0)) := ⟨hAs, hA0⟩
  have HKs : Hid (Sl w ak m (fun i => Value.int .u64 (K i)) ∧ (ak = none → m = 0 ∧ ck = 0)) := ⟨hKs, hK0⟩
  have HLs : Hid (Sl w al m (fun i => Value.bool (L i)) ∧ (al = none → m = 0 ∧ cl = 0)) := ⟨hLs, hL0⟩
  have HE1 : Hid (∀ i, E i < 4294967296) := hE1
  have HA1 : Hid (∀ i, A i < 4294967296) := hA1
  clear hE hE0 hAs hA0 hKs hK0 hLs hL0 hE1 hA1
  go_enter Try.func6, Try.ntmps6
  go_wp2_with fail
  refine (bytes_any _ _ _ _ _ _ _ _ _ _ _ _ _ _ _).mono ?_
  rintro e w' ⟨⟨r, rfl⟩, rfl⟩
  cases r with
  | false =>
    go_wp2
    go_ret
    exact ⟨rfl, Below.refl _ _⟩
  | true =>
    go_wp2
    go_loop [13, 14] (fun p j => ∃ k : Nat, k ≤ n ∧ j = .int .i64 k ∧ p = .int .u32 ((startOf E k : Nat) : Int) ∧ Hid (∀ i, i < k → startOf E i ≤ E i ∧ E i ≤ s.size)) (fun _ j => n - (intOf j).toNat)
    case atStart => exact ⟨0, Nat.zero_le _, rfl, rfl, fun i hi => absurd hi (Nat.not_lt_zero i)⟩
    case round =>
      obtain ⟨k, hk, rfl, rfl, hok⟩ := hrel
      by_cases hlt : k < n
      · obtain ⟨b, o, rfl, hc⟩ := HE.out.1 k hlt
        have hst : startOf E (k + 1) = E k := by simp [startOf]
        have HST : Hid (startOf E (k + 1) = E k) := hst
        have hbd := HE1.out k
        clear hst
        by_cases h1 : E k < startOf E k
        · go_wp2
          go_ret
          exact ⟨rfl, Below.refl _ _⟩
        · by_cases h2 : s.size < E k
          · go_wp2
            go_ret
            exact ⟨rfl, Below.refl _ _⟩
          · go_wp2
            go_round
            case rel => exact ⟨k + 1, by omega, by go_num, by rw [HST.out], fun i hi => by
              by_cases e : i = k
              · subst e; omega
              · exact hok i (by omega)⟩
            case measure => simp [intOf]; omega
      · obtain rfl : k = n := by omega
        go_wp2
        go_loopw [15] (fun j wr => ∃ q : Nat, q ≤ m ∧ j = .int .i64 q ∧ Hid (∀ i, i < q → A i < k ∧ startOf E (A i) + d ≤ E (A i)) ∧ Below w.heap.size w wr) (fun j _ => m - (intOf j).toNat)
        case atStart => exact ⟨0, Nat.zero_le _, rfl, fun i hi => absurd hi (Nat.not_lt_zero i), Below.refl _ _⟩
        case round =>
          obtain ⟨q, hq, rfl, hok2, hbel⟩ := hrel
          by_cases hql : q < m
          · obtain ⟨b, o, rfl, hc⟩ := HAs.out.1.at hbel hql
            have hbd := HA1.out q
            have HB : Hid (Below w.heap.size w wr) := hbel
            clear hbel
            by_cases h1 : k ≤ A q
            · go_wp2
              go_ret
              exact ⟨rfl, HB.out⟩
            · obtain ⟨p1, p2⟩ := hok.out (A q) (by omega)
              have hsp := span_any ae k ce (A q) E wr (by omega) (by omega) (HE.out.1.below HB.out)
              go_wp2_with fail
              refine hsp.mono ?_
              clear hsp
              rintro e w2 ⟨rfl, hb2⟩
              have HB2 : Hid (Below w.heap.size w w2) := HB.out.trans (hb2.mono HB.out.size)
              clear hb2 HB
              by_cases h2 : E (A q) - startOf E (A q) < d
              · go_wp2
                go_ret
                exact ⟨rfl, HB2.out⟩
              · go_wp2
                go_roundw
                case rel => exact ⟨q + 1, by omega, by go_num, fun i hi => by
                  by_cases e : i = q
                  · subst e; omega
                  · exact hok2 i (by omega), HB2.out⟩
                case measure => simp [intOf]; omega
          · obtain rfl : q = m := by omega
            have HB : Hid (Below w.heap.size w wr) := hbel
            clear hbel
            have HOK : Hid (∀ i, i < q → A i < k ∧ startOf E (A i) + d ≤ E (A i) ∧ E (A i) ≤ s.size) := fun i hi => ⟨(hok2.out i hi).1, (hok2.out i hi).2, (hok.out _ (hok2.out i hi).1).2⟩
            clear hok hok2
            have hcl := clone16_any ae k ce (fun i => ((E i : Nat) : Int)) wr (by omega) HE.out.2 (HE.out.1.below HB.out)
            go_wp2_with fail
            refine hcl.mono ?_
            clear hcl
            rintro e w1 ⟨ae', ce', rfl, sE, -, b1⟩
            have HB1 : Hid (Below w.heap.size w w1) := HB.out.trans (b1.mono HB.out.size)
            have HE' : Hid (Sl w1 ae' k (fun i => Value.int .u32 ((E i : Nat) : Int))) := sE
            clear sE b1 HB HE
            have hcl := clone16_any aa q ca (fun i => ((A i : Nat) : Int)) w1 (by omega) HAs.out.2 (HAs.out.1.below HB1.out)
            go_wp2_with fail
            refine hcl.mono ?_
            clear hcl
            rintro e w2 ⟨aa', ca', rfl, sA, -, b2⟩
            have HB2 : Hid (Below w.heap.size w w2) := HB1.out.trans (b2.mono HB1.out.size)
            have HE2 : Hid (Sl w2 ae' k (fun i => Value.int .u32 ((E i : Nat) : Int))) := HE'.out.below b2
            have HA2 : Hid (Sl w2 aa' q (fun i => Value.int .u32 ((A i : Nat) : Int))) := sA
            clear sA b2 HB1 HE' HAs
            have hcl := clone17_any ak q ck K w2 (by omega) HKs.out.2 (HKs.out.1.below HB2.out)
            go_wp2_with fail
            refine hcl.mono ?_
            clear hcl
            rintro e w3 ⟨ak', ck', rfl, sK, -, b3⟩
            have HB3 : Hid (Below w.heap.size w w3) := HB2.out.trans (b3.mono HB2.out.size)
            have HE3 : Hid (Sl w3 ae' k (fun i => Value.int .u32 ((E i : Nat) : Int))) := HE2.out.below b3
            have HA3 : Hid (Sl w3 aa' q (fun i => Value.int .u32 ((A i : Nat) : Int))) := HA2.out.below b3
            have HK3 : Hid (Sl w3 ak' q (fun i => Value.int .u64 (K i))) := sK
            clear sK b3 HB2 HE2 HA2 HKs
            have hcl := clone18_any al q cl L w3 (by omega) HLs.out.2 (HLs.out.1.below HB3.out)
            go_wp2_with fail
            refine hcl.mono ?_
            clear hcl
            rintro e w4 ⟨al', cl', rfl, sL, -, b4⟩
            have HB4 : Hid (Below w.heap.size w w4) := HB3.out.trans (b4.mono HB3.out.size)
            have HE4 : Hid (Sl w4 ae' k (fun i => Value.int .u32 ((E i : Nat) : Int))) := HE3.out.below b4
            have HA4 : Hid (Sl w4 aa' q (fun i => Value.int .u32 ((A i : Nat) : Int))) := HA3.out.below b4
            have HK4 : Hid (Sl w4 ak' q (fun i => Value.int .u64 (K i))) := HK3.out.below b4
            have HL4 : Hid (Sl w4 al' q (fun i => Value.bool (L i))) := sL
            clear sL b4 HB3 HE3 HA3 HK3 HLs
            have hzz := zzKeyFrom_any s ae' aa' ak' al' k ce' q ca' ck' cl' E K A L d w4 hm (by omega) (by omega) (by omega) HE4.out HA4.out HK4.out HL4.out HOK.out
            go_wp2_with fail
            refine hzz.mono ?_
            clear hzz
            rintro e w5 ⟨g1, g2, g3, rfl, r1, r2, r3, b5⟩
            have HW : Hid (Below w.heap.size w w5 ∧ Sl w5 ae' k (fun i => Value.int .u32 ((E i : Nat) : Int)) ∧ Sl w5 aa' q (fun i => Value.int .u32 ((A i : Nat) : Int)) ∧ Sl w5 al' q (fun i => Value.bool (L i)) ∧
                w5.rowIs g1 34 q (fun i => .int .u64 ((keyN (idOf s E A i) d : Nat) : Int)) ∧ w5.rowIs g2 33 q (fun i => .int .u32 ((A i : Nat) : Int)) ∧ w5.rowIs g3 4 q (fun i => .bool (L i))) :=
              ⟨HB4.out.trans (b5.mono HB4.out.size), HE4.out.below b5, HA4.out.below b5, HL4.out.below b5, r1, r2, r3⟩
            clear r1 r2 r3 b5 HB4 HE4 HA4 HK4 HL4
            go_wp2
            go_loopw [21] (fun j wr => ∃ i : Nat, i ≤ q ∧ j = .int .i64 i ∧ Below w5.heap.size w5 wr) (fun j _ => q - (intOf j).toNat)
            case atStart => exact ⟨0, Nat.zero_le _, rfl, Below.refl _ _⟩
            case round =>
              obtain ⟨i, hi, rfl, hbel⟩ := hrel
              by_cases hiq : i < q
              · obtain ⟨v1, v2, v3, v4, v5, v6, v7⟩ := HW.out
                obtain ⟨hA1, hA2, hA3⟩ := HOK.out i hiq
                obtain ⟨ba, oa, rfl, ca0⟩ := v3.at hbel hiq
                obtain ⟨bl, ol, rfl, cl0⟩ := v4.at hbel hiq
                have c1 : wr.cell? ⟨g1, i, none⟩ = some (.int .u64 ((keyN (idOf s E A i) d : Nat) : Int)) := (rowIs_below v5 hbel).cell hiq
                have c2 : wr.cell? ⟨g2, i, none⟩ = some (.int .u32 ((A i : Nat) : Int)) := (rowIs_below v6 hbel).cell hiq
                have c3 : wr.cell? ⟨g3, i, none⟩ = some (.bool (L i)) := (rowIs_below v7 hbel).cell hiq
                have hil : (i : Int) < (q : Int) := by omega
                have hsp := fun W (hb : Below w5.heap.size w5 W) => span_any ae' k ce' (A i) E W (by omega) hA1 (v2.below hb)
                have HSP : Hid (∀ (W : World), Below w5.heap.size w5 W → Calls Try.prog 15 #[.slice ae' k ce', .int .i64 ((A i : Nat) : Int)] W fun e w' => e = .returned (.tuple #[.int .u32 ((startOf E (A i) : Nat) : Int), .int .u32 ((E (A i) : Nat) : Int)]) ∧ Below W.heap.size W w') := hsp
                have HB : Hid (Below w5.heap.size w5 wr) := hbel
                clear hsp hbel v1 v2 v3 v4 v5 v6 v7
                go_wp2
                go_quiet (fail)
                go_wp2_with fail
                refine (HSP.out _ (below_drewN HB.out _)).mono ?_
                rintro e w6 ⟨rfl, hb6⟩
                have hc6 : w6.cell? ⟨g1, i, none⟩ = some (.int .u64 ((keyN (idOf s E A i) d : Nat) : Int)) := cell_later hb6 c1
                have HB6 : Hid (Below w5.heap.size w5 w6) := (below_drewN HB.out _).trans (hb6.mono (by have := HB.out.size; simpa using this))
                clear hb6 HB HSP c1 c2 c3 ca0 cl0
                have hid := idOf_size s E A i hA3
                have hx : s.extract (startOf E (A i)) (E (A i)) = idOf s E A i := rfl
                have hk0 := keyN_lt (idOf s E A i) d
                have hge : startOf E (A i) ≤ E (A i) := by omega
                go_wp2_with fail
                clear hx hc6
                have KB : Hid (∀ b, b ≤ 6 → keyN (idOf s E A i) d / 2 ^ (56 - 8 * b) % 256 = byteAt (idOf s E A i) (d + b)) := fun b hb => keyN_byte _ _ b hb
                have KL : Hid (keyN (idOf s E A i) d % 256 = if (idOf s E A i).size - d ≤ 7 then (idOf s E A i).size - d else 8) := keyN_low _ _
                generalize hid2 : idOf s E A i = id at *
                generalize keyN id d = ky at *
                have hdR : d ≤ E (A i) - startOf E (A i) := by omega
                generalize E (A i) - startOf E (A i) = R at *
                have HID : Hid (id.size = R) := hid
                have hR : R ≤ 262144 := by
                  have : R ≤ s.size := by rw [← hid, ← hid2]; rw [idOf_size s E A i hA3]; omega
                  omega
                clear hid hid2 hge
                go_loop [27] (fun j => ∃ b : Nat, b ≤ 7 ∧ j = .int .i64 b) (fun j => 7 - (intOf j).toNat)
                case atStart => exact ⟨0, Nat.zero_le _, rfl⟩
                case round =>
                  obtain ⟨b, hb, rfl⟩ := hrel
                  by_cases hb7 : b < 7
                  · have hkb := KB.out b (by omega)
                    by_cases hr : d + b < R
                    · have hlt3 : d + b < id.size := by rw [HID.out]; exact hr
                      have hlt4 : ((d : Int) + (b : Int)) < (id.size : Int) := by omega
                      have hne : ((ky : Int) / 2 ^ (56 - 8 * b) % 256 != ((id[d + b]'hlt3).toNat : Int)) = false := bne_false (by rw [← castDiv, hkb, byteAt_in id (d + b) hlt3])
                      clear hkb
                      go_wp2
                      go_round
                      case rel => exact ⟨b + 1, by omega, by go_num⟩
                      case measure => simp [intOf]; omega
                    · have hne : ((ky : Int) / 2 ^ (56 - 8 * b) % 256 != 0) = false := bne_false (by rw [← castDiv, hkb, byteAt_out id (d + b) (by rw [HID.out]; exact hr)]; rfl)
                      clear hkb
                      go_wp2
                      go_round
                      case rel => exact ⟨b + 1, by omega, by go_num⟩
                      case measure => simp [intOf]; omega
                  · have hkl := KL.out
                    rw [HID.out] at hkl
                    by_cases hr : R - d ≤ 7
                    · rw [if_pos hr] at hkl
                      have hne : ((ky : Int) % 256 != ((R : Int) - (d : Int))) = false := bne_false (by omega)
                      clear hkl
                      go_wp2
                      go_roundw
                      case rel => exact ⟨i + 1, by omega, by go_num, HB6.out⟩
                      case measure => simp [intOf]; omega
                    · rw [if_neg hr] at hkl
                      have hne : ((ky : Int) % 256 != 8) = false := bne_false (by omega)
                      clear hkl
                      go_wp2
                      go_roundw
                      case rel => exact ⟨i + 1, by omega, by go_num, HB6.out⟩
                      case measure => simp [intOf]; omega
              · obtain rfl : i = q := by omega
                have HB : Hid (Below w5.heap.size w5 wr) := hbel
                clear hbel
                go_wp2
                go_ret
                exact ⟨rfl, HW.out.1.trans (HB.out.mono HW.out.1.size)⟩

end Go.Proofs.Qxb6601267a
