/-
  Seat b6002359a: the walks: zzBytes, RuneStart, clip, the law.
-/
import Derived.Test.Qxb6002359aWalks
namespace Go.Proofs.Qxb6002359a
open Go.RowKit

set_option maxHeartbeats 400000 in
theorem bytes_any (s : ByteArray) (m : Int) (w : World) : Calls Try.prog 7 #[.string s, .int .i64 m] w fun e w' => (∃ r, e = .returned (.bool r)) ∧ w = w' := by
  go_enter Try.func7, Try.ntmps7
  go_wp2
  all_goals (go_ret; exact ⟨⟨_, rfl⟩, rfl⟩)

theorem start_any (c : Nat) (w : World) : Calls Try.prog 35 #[.int .u8 (c : Int)] w fun e w' => e = .returned (.bool (!isC c)) ∧ w' = w := by
  go_enter Try.func35, Try.ntmps35
  go_wp2
  go_ret
  exact ⟨by unfold isC; rw [Bool.not_not]; rfl, rfl⟩

/-- The three dots. -/
def dots : ByteArray := ⟨#[46, 46, 46]⟩

theorem cut_zero (s : ByteArray) : s.extract 0 0 ++ dots = ⟨#[46, 46, 46]⟩ := by
  apply ByteArray.ext
  simp [dots]

/-- Where clip cuts. -/
def CutAt (s : ByteArray) (mx : Nat) (e : Ending) : Prop :=
  ∃ cut, e = .returned (.string (s.extract 0 cut ++ dots)) ∧ cut ≤ mx ∧ (cut = 0 ∨ isC (byteAt s cut) = false) ∧ (∀ j, cut < j → j ≤ mx → isC (byteAt s j) = true)

theorem CutAt.mk {s t : ByteArray} {mx : Nat} (cut : Nat) (ht : s.extract 0 cut ++ dots = t) (h1 : cut ≤ mx) (h2 : cut = 0 ∨ isC (byteAt s cut) = false) (h3 : ∀ j, cut < j → j ≤ mx → isC (byteAt s j) = true) : CutAt s mx (.returned (.string t)) :=
  ⟨cut, by rw [ht], h1, h2, h3⟩

set_option maxHeartbeats 1000000 in
theorem clip_short (s : ByteArray) (mx : Nat) (w : World) (h : s.size ≤ mx) : Calls Try.prog 26 #[.string s, .int .i64 (mx : Int)] w fun e w' => e = .returned (.string s) ∧ w' = w := by
  go_enter Try.func26, Try.ntmps26
  go_wp2
  go_ret
  exact ⟨rfl, rfl⟩

set_option maxHeartbeats 1000000 in
theorem clip_long (s : ByteArray) (mx : Nat) (w : World) (hs : s.size ≤ 65536) (h : mx < s.size) : Calls Try.prog 26 #[.string s, .int .i64 (mx : Int)] w fun e w' => CutAt s mx e ∧ w' = w := by
  have hd0 : decide (s.size ≤ mx) = false := decide_eq_false (by omega)
  go_enter Try.func26, Try.ntmps26
  go_wp2
  go_loop [5] (fun cv => ∃ cut : Nat, cut ≤ mx ∧ cv = .int .i64 cut ∧ Hid (∀ j, cut < j → j ≤ mx → isC (byteAt s j) = true)) (fun cv => (intOf cv).toNat)
  case atStart => exact ⟨mx, Nat.le_refl _, rfl, fun j h1 h2 => by omega⟩
  case round =>
    obtain ⟨cut, hc, rfl, HJ⟩ := hrel
    by_cases h0 : cut = 0
    · subst h0
      have hd : decide ((0 : Int) < ((0 : Nat) : Int)) = false := by decide
      go_wp2
      go_ret
      exact ⟨CutAt.mk 0 (cut_zero s) (Nat.zero_le _) (Or.inl rfl) HJ.out, rfl⟩
    · have hlt : cut < s.size := by omega
      have hd : (0 : Int) < (cut : Int) := by omega
      have hb := byteAt_in s cut hlt
      have hst := start_any (byteAt s cut) w
      have hlt2 : (cut : Int) < (s.size : Int) := by omega
      cases hc : isC (byteAt s cut) with
      | true =>
        rw [hc] at hst
        have HC : Hid (isC (byteAt s cut) = true) := hc
        clear hc
        go_wp2_with fail
        refine hst.mono ?_
        clear hst
        rintro e w' ⟨rfl, rfl⟩
        go_wp2
        go_round
        case rel => exact ⟨cut - 1, by omega, by go_num, fun j h1 h2 => by
          by_cases e : j = cut
          · subst e; exact HC.out
          · exact HJ.out j (by omega) h2⟩
        case measure => simp [intOf]; omega
      | false =>
        rw [hc] at hst
        have HC : Hid (isC (byteAt s cut) = false) := hc
        clear hc
        go_wp2_with fail
        refine hst.mono ?_
        clear hst
        rintro e w' ⟨rfl, rfl⟩
        go_wp2
        go_ret
        exact ⟨CutAt.mk cut rfl (by omega) (Or.inr HC.out) HJ.out, rfl⟩

theorem zzclip_short (s : ByteArray) (mx : Nat) (w : World) (h : s.size ≤ mx) : Calls Try.prog 8 #[.string s, .int .i64 (mx : Int)] w fun e w' => e = .returned (.string s) ∧ w' = w := by
  have hc := clip_short s mx w h
  clear h
  go_enter Try.func8, Try.ntmps8
  go_wp2_with fail
  refine hc.mono ?_
  clear hc
  rintro e w' ⟨rfl, rfl⟩
  go_wp2
  go_ret
  exact ⟨rfl, rfl⟩

theorem zzclip_long (s : ByteArray) (mx : Nat) (w : World) (hs : s.size ≤ 65536) (h : mx < s.size) : Calls Try.prog 8 #[.string s, .int .i64 (mx : Int)] w fun e w' => CutAt s mx e ∧ w' = w := by
  have hc := clip_long s mx w hs h
  clear h hs
  go_enter Try.func8, Try.ntmps8
  go_wp2_with fail
  refine hc.mono ?_
  clear hc
  rintro e w' ⟨⟨cut, rfl, h1, h2, h3⟩, rfl⟩
  have HK : Hid (CutAt s mx (.returned (.string (s.extract 0 cut ++ dots)))) := CutAt.mk cut rfl h1 h2 h3
  clear h1 h2 h3
  go_wp2
  go_ret
  exact ⟨HK.out, rfl⟩

theorem dots_list : (dots.toList == [46, 46, 46]) = true := by
  rw [ByteArray.toList_eq]; rfl

theorem ba_right (A B : ByteArray) : (A ++ B).extract A.size (A.size + B.size) = B := by
  apply ByteArray.ext
  rw [ByteArray.data_extract, ByteArray.data_append]
  apply Array.toList_inj.1
  show ((A.data ++ B.data).extract A.data.size (A.data.size + B.data.size)).toList = _
  have h1 : A.data.toList.length = A.size := rfl
  have h2 : B.data.toList.length = B.size := rfl
  simp
  rw [List.drop_of_length_le (by omega), List.take_nil, List.nil_append, List.take_of_length_le (by omega)]

theorem ba_left (A B : ByteArray) : (A ++ B).extract 0 A.size = A := by
  apply ByteArray.ext
  rw [ByteArray.data_extract, ByteArray.data_append]
  apply Array.toList_inj.1
  show ((A.data ++ B.data).extract 0 A.data.size).toList = _
  have h1 : A.data.toList.length = A.size := rfl
  simp
  rw [List.take_of_length_le (by omega)]

set_option maxRecDepth 100000 in
set_option maxHeartbeats 1000000 in
theorem law_any (s : ByteArray) (m : Int) (w : World) : Calls Try.prog 3 #[.string s, .int .i64 m] w fun e w' => e = .returned (.bool true) ∧ w = w' := by
  by_cases h1 : s.size ≤ 65536
  · by_cases h2 : m < 0
    · go_enter Try.func3, Try.ntmps3
      go_wp2_with fail
      refine (bytes_any _ _ _).mono ?_
      rintro e w' ⟨⟨r, rfl⟩, rfl⟩
      cases r with
      | false => go_wp2; go_ret; exact ⟨rfl, rfl⟩
      | true => go_wp2; go_ret; exact ⟨rfl, rfl⟩
    · obtain ⟨mx, rfl⟩ := Int.eq_ofNat_of_zero_le (show 0 ≤ m from by omega)
      by_cases h3 : s.size ≤ mx
      · have hz := zzclip_short s mx w h3
        go_enter Try.func3, Try.ntmps3
        go_wp2_with fail
        refine (bytes_any _ _ _).mono ?_
        rintro e w' ⟨⟨r, rfl⟩, rfl⟩
        cases r with
        | false => go_wp2; go_ret; exact ⟨rfl, rfl⟩
        | true =>
          go_wp2_with fail
          refine hz.mono ?_
          clear hz
          rintro e w2 ⟨rfl, rfl⟩
          go_wp2
          go_ret
          exact ⟨by simp, rfl⟩
      · have hz := zzclip_long s mx w h1 (by omega)
        have hd0 : decide (s.size ≤ mx) = false := decide_eq_false h3
        go_enter Try.func3, Try.ntmps3
        go_wp2_with fail
        refine (bytes_any _ _ _).mono ?_
        rintro e w' ⟨⟨r, rfl⟩, rfl⟩
        cases r with
        | false => go_wp2; go_ret; exact ⟨rfl, rfl⟩
        | true =>
          go_wp2_with fail
          refine hz.mono ?_
          clear hz
          rintro e w2 ⟨⟨cut, rfl, k1, k2, k3⟩, rfl⟩
          have hps : (s.extract 0 cut).size = cut := by rw [ByteArray.size_extract]; omega
          have hos : (s.extract 0 cut ++ dots).size = cut + 3 := by rw [ByteArray.size_append, hps]; rfl
          have he1 : (s.extract 0 cut ++ dots).extract cut (cut + 3) = dots := by
            have := ba_right (s.extract 0 cut) dots
            rwa [hps, show dots.size = 3 from rfl] at this
          have he2 : (s.extract 0 cut ++ dots).extract 0 cut = s.extract 0 cut := by
            have := ba_left (s.extract 0 cut) dots
            rwa [hps] at this
          have HOK : Hid (okS s = true → okS (s.extract 0 cut) = true ∧ mx ≤ cut + 3) := okS_cut s cut mx k1 (by omega) k2 k3
          clear k2 k3
          have hdl := dots_list
          have hv1 := valid_any s w2 h1
          have hv2 := valid_any (s.extract 0 cut) w2 (by omega)
          generalize s.extract 0 cut ++ dots = O at *
          go_wp2_with fail
          refine hv1.mono ?_
          clear hv1
          rintro e w3 ⟨rfl, rfl⟩
          cases hok : okS s with
          | false =>
            go_wp2
            go_ret
            exact ⟨rfl, rfl⟩
          | true =>
            obtain ⟨q1, q2⟩ := HOK.out hok
            rw [q1] at hv2
            clear HOK hok q1
            go_wp2_with fail
            refine hv2.mono ?_
            clear hv2
            rintro e w4 ⟨rfl, rfl⟩
            go_wp2
            go_ret
            exact ⟨rfl, rfl⟩
  · go_enter Try.func3, Try.ntmps3
    go_wp2_with fail
    refine (bytes_any _ _ _).mono ?_
    rintro e w' ⟨⟨r, rfl⟩, rfl⟩
    cases r with
    | false => go_wp2; go_ret; exact ⟨rfl, rfl⟩
    | true => go_wp2; go_ret; exact ⟨rfl, rfl⟩

end Go.Proofs.Qxb6002359a
