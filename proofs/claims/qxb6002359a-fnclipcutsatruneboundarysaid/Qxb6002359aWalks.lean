/-
  Seat b6002359a: the walks: zzBytes, RuneStart, zzValidUTF8, clip.
-/
import Derived.Test.Qxb6002359aRows
import Derived.Test.Qxb6002359aPlain
import Derived.WalkKit
import Derived.WalkSpells
import Derived.WalkLawsBesides
import Derived.Deep.QuietTactic
import Derived.BigQuiet
namespace Go.Proofs.Qxb6002359a
open Go.RowKit

theorem ret_bool {a b : Bool} (h : b = a) : Ending.returned (.bool a) = .returned (.bool b) := by rw [h]

/-- The lead of a rune of 2, 3, 4 bytes. -/
def Lead2 (c : Nat) : Prop := (bits BinOp.and IntKind.u8 (c : Int) 224 == 192) = true
def Lead3 (c : Nat) : Prop := (bits BinOp.and IntKind.u8 (c : Int) 224 == 192) = false ∧ (bits BinOp.and IntKind.u8 (c : Int) 240 == 224) = true
def Lead4 (c : Nat) : Prop := (bits BinOp.and IntKind.u8 (c : Int) 224 == 192) = false ∧ (bits BinOp.and IntKind.u8 (c : Int) 240 == 224) = false ∧ (bits BinOp.and IntKind.u8 (c : Int) 248 == 240) = true
def Lead0 (c : Nat) : Prop := (bits BinOp.and IntKind.u8 (c : Int) 224 == 192) = false ∧ (bits BinOp.and IntKind.u8 (c : Int) 240 == 224) = false ∧ (bits BinOp.and IntKind.u8 (c : Int) 248 == 240) = false

theorem seq1 (b : Nat → Nat) (i : Nat) (h : b i < 128) : seq b i = 1 := by
  unfold seq; rw [if_pos h]
theorem seq2 (b : Nat → Nat) (i : Nat) (h : 128 ≤ b i) (hl : Lead2 (b i)) : seq b i = tail b i 2 (((b i : Nat) : Int) % 32) 128 := by
  unfold seq; rw [if_neg (by omega), if_pos (show (bits BinOp.and IntKind.u8 ((b i : Nat) : Int) 224 == 192) = true from hl)]
theorem seq3 (b : Nat → Nat) (i : Nat) (h : 128 ≤ b i) (hl : Lead3 (b i)) : seq b i = tail b i 3 (((b i : Nat) : Int) % 16) 2048 := by
  unfold seq; rw [if_neg (by omega), if_neg (by rw [hl.1]; decide), if_pos hl.2]
theorem seq4 (b : Nat → Nat) (i : Nat) (h : 128 ≤ b i) (hl : Lead4 (b i)) : seq b i = tail b i 4 (((b i : Nat) : Int) % 8) 65536 := by
  unfold seq; rw [if_neg (by omega), if_neg (by rw [hl.1]; decide), if_neg (by rw [hl.2.1]; decide), if_pos hl.2.2]
theorem seq0 (b : Nat → Nat) (i : Nat) (h : 128 ≤ b i) (hl : Lead0 (b i)) : seq b i = 0 := by
  unfold seq; rw [if_neg (by omega), if_neg (by rw [hl.1]; decide), if_neg (by rw [hl.2.1]; decide), if_neg (by rw [hl.2.2]; decide)]

set_option maxRecDepth 100000 in
set_option maxHeartbeats 4000000 in
theorem valid_any (s : ByteArray) (w : World) (hs : s.size ≤ 65536) : Calls Try.prog 9 #[.string s] w fun e w' => e = .returned (.bool (okS s)) ∧ w' = w := by
  go_enter Try.func9, Try.ntmps9
  go_wp2
  go_loop [3] (fun iv => ∃ i f : Nat, i ≤ s.size ∧ s.size - i ≤ f ∧ iv = .int .i64 i ∧ Hid (okF (byteAt s) s.size f i = okS s)) (fun iv => s.size - (intOf iv).toNat)
  case atStart => exact ⟨0, s.size, Nat.zero_le _, by omega, rfl, rfl⟩
  case round =>
    obtain ⟨i, f0, hi, hf, rfl, HF⟩ := hrel
    by_cases hlt : i < s.size
    · obtain ⟨f, rfl⟩ : ∃ f, f0 = f + 1 := ⟨f0 - 1, by omega⟩
      have hb := byteAt_in s i hlt
      have hb256 := byteAt_lt s i
      by_cases h1 : byteAt s i < 128
      · have HS : Hid (seq (byteAt s) i = 1) := seq1 _ _ h1
        go_wp2
        go_round
        case rel => exact ⟨i + 1, f, by omega, by omega, by go_num, by rw [← HF.out, okF_step _ _ _ _ 1 hlt HS.out (by omega) (by omega)]; exact (rfl : _ = _)⟩
        case measure => simp [intOf]; omega
      · have h1' : 128 ≤ byteAt s i := by omega
        cases hm1 : (bits BinOp.and IntKind.u8 ((byteAt s i : Nat) : Int) 224 == 192) with
        | true =>
          have HL : Hid (Lead2 (byteAt s i)) := hm1
          by_cases hl : 2 ≤ s.size - i
          · have HT : Hid (seq (byteAt s) i = tail (byteAt s) i 2 (((byteAt s i : Nat) : Int) % 32) 128) := seq2 (byteAt s) i (by omega) HL.out
            have hl' : (i : Int) + 2 ≤ (s.size : Int) := by omega
            go_wp2
            go_loop [6, 8] (fun rv kv => ∃ (r : Int) (k : Nat), 1 ≤ k ∧ k ≤ 2 ∧ rv = .int .i32 r ∧ kv = .int .i64 k ∧ Hid (r = rAcc (byteAt s) i (((byteAt s i : Nat) : Int) % 32) (k - 1) ∧ contsB (byteAt s) i (k - 1) = true)) (fun _ kv => 2 - (intOf kv).toNat)
            case atStart => exact ⟨_, 1, Nat.le_refl _, by omega, rfl, rfl, ⟨rfl, rfl⟩⟩
            case round =>
              obtain ⟨r, k, hk1, hk2, rfl, rfl, HR⟩ := hrel
              by_cases hk : k < 2
              · have hlt2 : i + k < s.size := by omega
                have hlt3 : (i : Int) + (k : Int) < (s.size : Int) := by omega
                have hb2 := byteAt_in s (i + k) hlt2
                have hb2256 := byteAt_lt s (i + k)
                have HD : Hid (∀ d, byteAt s (i + k) = d → (isC d = true → contsB (byteAt s) i k = true) ∧ (isC d = false → contsB (byteAt s) i k = false) ∧ rAcc (byteAt s) i (((byteAt s i : Nat) : Int) % 32) k = bits BinOp.or IntKind.i32 (wrap32 (r * 64)) ((d : Int) % 64)) := by
                  intro d hd
                  obtain ⟨q, rfl⟩ : ∃ q, k = q + 1 := ⟨k - 1, by omega⟩
                  obtain ⟨h1, h2⟩ := HR.out
                  rw [Nat.add_sub_cancel] at h1 h2
                  subst hd
                  exact ⟨fun h => by rw [contsB, h2, h]; rfl, fun h => by rw [contsB, h]; simp, by rw [rAcc, h1]⟩
                generalize hd : byteAt s (i + k) = d at *
                have HD2 := HD.out d rfl
                have HD3 : Hid ((isC d = true → contsB (byteAt s) i k = true) ∧ (isC d = false → contsB (byteAt s) i k = false) ∧ rAcc (byteAt s) i (((byteAt s i : Nat) : Int) % 32) k = bits BinOp.or IntKind.i32 (wrap32 (r * 64)) ((d : Int) % 64)) := HD2
                clear HD HD2 hd
                cases hcd : (bits BinOp.and IntKind.u8 (d : Int) 192 != 128) with
                | true =>
                  have HI : Hid (isC d = false) := by unfold isC; rw [hcd]; rfl
                  go_wp2
                  go_ret
                  refine ⟨ret_bool ?_, rfl⟩
                  have hcf : contsB (byteAt s) i (2 - 1) = false := by
                    have h1 := HD3.out.2.1 HI.out
                    cases hx : contsB (byteAt s) i (2 - 1) with
                    | false => rfl
                    | true =>
                      rw [contsB_iff] at hx
                      have h2 : contsB (byteAt s) i k = true := (contsB_iff _ _ _).2 (fun j h1 h2 => hx j h1 (by omega))
                      rw [h1] at h2; cases h2
                  rw [← HF.out, okF_bad _ _ _ _ hlt (Or.inl (by rw [HT.out]; unfold tail; rw [hcf]; rw [if_neg (fun h => by cases h.1)]))]
                | false =>
                  have HI : Hid (isC d = true) := by unfold isC; rw [hcd]; rfl
                  go_wp2
                  go_round
                  case rel => exact ⟨_, k + 1, by omega, by omega, rfl, by go_num, by rw [Nat.add_sub_cancel]; exact ⟨HD3.out.2.2.symm, HD3.out.1 HI.out⟩⟩
                  case measure => simp [intOf]; omega
              · obtain rfl : k = 2 := by omega
                have HK : Hid (∀ q, okR 128 r = q → seq (byteAt s) i = if q = true then 2 else 0) := by
                  intro q hq
                  obtain ⟨h1, h2⟩ := HR.out
                  rw [HT.out]
                  unfold tail
                  rw [← h1, h2, hq]
                  cases q <;> rfl
                by_cases ho : 128 ≤ r
                · by_cases ho2 : r ≤ 1114111
                  · by_cases ho3 : 55296 ≤ r
                    · by_cases ho4 : r ≤ 57343
                      · have HS : Hid (seq (byteAt s) i = 0) := by
                          have := HK.out false (decide_eq_false (by omega))
                          exact this
                        clear HK
                        go_wp2
                        go_ret
                        exact ⟨ret_bool (by rw [← HF.out, okF_bad _ _ _ _ hlt (Or.inl HS.out)]), rfl⟩
                      · have HS : Hid (seq (byteAt s) i = 2) := by
                          have := HK.out true (decide_eq_true (by omega))
                          exact this
                        clear HK
                        go_wp2
                        go_round
                        case rel => exact ⟨i + 2, f, by omega, by omega, by go_num, by rw [← HF.out, okF_step _ _ _ _ 2 hlt HS.out (by omega) (by omega)]; exact (rfl : _ = _)⟩
                        case measure => simp [intOf]; omega
                    · have HS : Hid (seq (byteAt s) i = 2) := by
                        have := HK.out true (decide_eq_true (by omega))
                        exact this
                      clear HK
                      go_wp2
                      go_round
                      case rel => exact ⟨i + 2, f, by omega, by omega, by go_num, by rw [← HF.out, okF_step _ _ _ _ 2 hlt HS.out (by omega) (by omega)]; exact (rfl : _ = _)⟩
                      case measure => simp [intOf]; omega
                  · have HS : Hid (seq (byteAt s) i = 0) := by
                      have := HK.out false (decide_eq_false (by omega))
                      exact this
                    clear HK
                    go_wp2
                    go_ret
                    exact ⟨ret_bool (by rw [← HF.out, okF_bad _ _ _ _ hlt (Or.inl HS.out)]), rfl⟩
                · have HS : Hid (seq (byteAt s) i = 0) := by
                    have := HK.out false (decide_eq_false (by omega))
                    exact this
                  clear HK
                  go_wp2
                  go_ret
                  exact ⟨ret_bool (by rw [← HF.out, okF_bad _ _ _ _ hlt (Or.inl HS.out)]), rfl⟩
          · have HS : Hid (seq (byteAt s) i = 0 ∨ s.size - i < seq (byteAt s) i) := by
              rw [seq2 (byteAt s) i (by omega) HL.out]
              rcases tail_cases (byteAt s) i 2 (((byteAt s i : Nat) : Int) % 32) 128 with h | ⟨h, _⟩
              · left; exact h
              · right; rw [h]; omega
            go_wp2
            go_ret
            exact ⟨ret_bool (by rw [← HF.out, okF_bad _ _ _ _ hlt HS.out]), rfl⟩
        | false =>
          cases hm2 : (bits BinOp.and IntKind.u8 ((byteAt s i : Nat) : Int) 240 == 224) with
          | true =>
            have HL : Hid (Lead3 (byteAt s i)) := ⟨hm1, hm2⟩
            by_cases hl : 3 ≤ s.size - i
            · have HT : Hid (seq (byteAt s) i = tail (byteAt s) i 3 (((byteAt s i : Nat) : Int) % 16) 2048) := seq3 (byteAt s) i (by omega) HL.out
              have hl' : (i : Int) + 3 ≤ (s.size : Int) := by omega
              go_wp2
              go_loop [6, 8] (fun rv kv => ∃ (r : Int) (k : Nat), 1 ≤ k ∧ k ≤ 3 ∧ rv = .int .i32 r ∧ kv = .int .i64 k ∧ Hid (r = rAcc (byteAt s) i (((byteAt s i : Nat) : Int) % 16) (k - 1) ∧ contsB (byteAt s) i (k - 1) = true)) (fun _ kv => 3 - (intOf kv).toNat)
              case atStart => exact ⟨_, 1, Nat.le_refl _, by omega, rfl, rfl, ⟨rfl, rfl⟩⟩
              case round =>
                obtain ⟨r, k, hk1, hk2, rfl, rfl, HR⟩ := hrel
                by_cases hk : k < 3
                · have hlt2 : i + k < s.size := by omega
                  have hlt3 : (i : Int) + (k : Int) < (s.size : Int) := by omega
                  have hb2 := byteAt_in s (i + k) hlt2
                  have hb2256 := byteAt_lt s (i + k)
                  have HD : Hid (∀ d, byteAt s (i + k) = d → (isC d = true → contsB (byteAt s) i k = true) ∧ (isC d = false → contsB (byteAt s) i k = false) ∧ rAcc (byteAt s) i (((byteAt s i : Nat) : Int) % 16) k = bits BinOp.or IntKind.i32 (wrap32 (r * 64)) ((d : Int) % 64)) := by
                    intro d hd
                    obtain ⟨q, rfl⟩ : ∃ q, k = q + 1 := ⟨k - 1, by omega⟩
                    obtain ⟨h1, h2⟩ := HR.out
                    rw [Nat.add_sub_cancel] at h1 h2
                    subst hd
                    exact ⟨fun h => by rw [contsB, h2, h]; rfl, fun h => by rw [contsB, h]; simp, by rw [rAcc, h1]⟩
                  generalize hd : byteAt s (i + k) = d at *
                  have HD2 := HD.out d rfl
                  have HD3 : Hid ((isC d = true → contsB (byteAt s) i k = true) ∧ (isC d = false → contsB (byteAt s) i k = false) ∧ rAcc (byteAt s) i (((byteAt s i : Nat) : Int) % 16) k = bits BinOp.or IntKind.i32 (wrap32 (r * 64)) ((d : Int) % 64)) := HD2
                  clear HD HD2 hd
                  cases hcd : (bits BinOp.and IntKind.u8 (d : Int) 192 != 128) with
                  | true =>
                    have HI : Hid (isC d = false) := by unfold isC; rw [hcd]; rfl
                    go_wp2
                    go_ret
                    refine ⟨ret_bool ?_, rfl⟩
                    have hcf : contsB (byteAt s) i (3 - 1) = false := by
                      have h1 := HD3.out.2.1 HI.out
                      cases hx : contsB (byteAt s) i (3 - 1) with
                      | false => rfl
                      | true =>
                        rw [contsB_iff] at hx
                        have h2 : contsB (byteAt s) i k = true := (contsB_iff _ _ _).2 (fun j h1 h2 => hx j h1 (by omega))
                        rw [h1] at h2; cases h2
                    rw [← HF.out, okF_bad _ _ _ _ hlt (Or.inl (by rw [HT.out]; unfold tail; rw [hcf]; rw [if_neg (fun h => by cases h.1)]))]
                  | false =>
                    have HI : Hid (isC d = true) := by unfold isC; rw [hcd]; rfl
                    go_wp2
                    go_round
                    case rel => exact ⟨_, k + 1, by omega, by omega, rfl, by go_num, by rw [Nat.add_sub_cancel]; exact ⟨HD3.out.2.2.symm, HD3.out.1 HI.out⟩⟩
                    case measure => simp [intOf]; omega
                · obtain rfl : k = 3 := by omega
                  have HK : Hid (∀ q, okR 2048 r = q → seq (byteAt s) i = if q = true then 3 else 0) := by
                    intro q hq
                    obtain ⟨h1, h2⟩ := HR.out
                    rw [HT.out]
                    unfold tail
                    rw [← h1, h2, hq]
                    cases q <;> rfl
                  by_cases ho : 2048 ≤ r
                  · by_cases ho2 : r ≤ 1114111
                    · by_cases ho3 : 55296 ≤ r
                      · by_cases ho4 : r ≤ 57343
                        · have HS : Hid (seq (byteAt s) i = 0) := by
                            have := HK.out false (decide_eq_false (by omega))
                            exact this
                          clear HK
                          go_wp2
                          go_ret
                          exact ⟨ret_bool (by rw [← HF.out, okF_bad _ _ _ _ hlt (Or.inl HS.out)]), rfl⟩
                        · have HS : Hid (seq (byteAt s) i = 3) := by
                            have := HK.out true (decide_eq_true (by omega))
                            exact this
                          clear HK
                          go_wp2
                          go_round
                          case rel => exact ⟨i + 3, f, by omega, by omega, by go_num, by rw [← HF.out, okF_step _ _ _ _ 3 hlt HS.out (by omega) (by omega)]; exact (rfl : _ = _)⟩
                          case measure => simp [intOf]; omega
                      · have HS : Hid (seq (byteAt s) i = 3) := by
                          have := HK.out true (decide_eq_true (by omega))
                          exact this
                        clear HK
                        go_wp2
                        go_round
                        case rel => exact ⟨i + 3, f, by omega, by omega, by go_num, by rw [← HF.out, okF_step _ _ _ _ 3 hlt HS.out (by omega) (by omega)]; exact (rfl : _ = _)⟩
                        case measure => simp [intOf]; omega
                    · have HS : Hid (seq (byteAt s) i = 0) := by
                        have := HK.out false (decide_eq_false (by omega))
                        exact this
                      clear HK
                      go_wp2
                      go_ret
                      exact ⟨ret_bool (by rw [← HF.out, okF_bad _ _ _ _ hlt (Or.inl HS.out)]), rfl⟩
                  · have HS : Hid (seq (byteAt s) i = 0) := by
                      have := HK.out false (decide_eq_false (by omega))
                      exact this
                    clear HK
                    go_wp2
                    go_ret
                    exact ⟨ret_bool (by rw [← HF.out, okF_bad _ _ _ _ hlt (Or.inl HS.out)]), rfl⟩
            · have HS : Hid (seq (byteAt s) i = 0 ∨ s.size - i < seq (byteAt s) i) := by
                rw [seq3 (byteAt s) i (by omega) HL.out]
                rcases tail_cases (byteAt s) i 3 (((byteAt s i : Nat) : Int) % 16) 2048 with h | ⟨h, _⟩
                · left; exact h
                · right; rw [h]; omega
              go_wp2
              go_ret
              exact ⟨ret_bool (by rw [← HF.out, okF_bad _ _ _ _ hlt HS.out]), rfl⟩
          | false =>
            cases hm3 : (bits BinOp.and IntKind.u8 ((byteAt s i : Nat) : Int) 248 == 240) with
            | true =>
              have HL : Hid (Lead4 (byteAt s i)) := ⟨hm1, hm2, hm3⟩
              by_cases hl : 4 ≤ s.size - i
              · have HT : Hid (seq (byteAt s) i = tail (byteAt s) i 4 (((byteAt s i : Nat) : Int) % 8) 65536) := seq4 (byteAt s) i (by omega) HL.out
                have hl' : (i : Int) + 4 ≤ (s.size : Int) := by omega
                go_wp2
                go_loop [6, 8] (fun rv kv => ∃ (r : Int) (k : Nat), 1 ≤ k ∧ k ≤ 4 ∧ rv = .int .i32 r ∧ kv = .int .i64 k ∧ Hid (r = rAcc (byteAt s) i (((byteAt s i : Nat) : Int) % 8) (k - 1) ∧ contsB (byteAt s) i (k - 1) = true)) (fun _ kv => 4 - (intOf kv).toNat)
                case atStart => exact ⟨_, 1, Nat.le_refl _, by omega, rfl, rfl, ⟨rfl, rfl⟩⟩
                case round =>
                  obtain ⟨r, k, hk1, hk2, rfl, rfl, HR⟩ := hrel
                  by_cases hk : k < 4
                  · have hlt2 : i + k < s.size := by omega
                    have hlt3 : (i : Int) + (k : Int) < (s.size : Int) := by omega
                    have hb2 := byteAt_in s (i + k) hlt2
                    have hb2256 := byteAt_lt s (i + k)
                    have HD : Hid (∀ d, byteAt s (i + k) = d → (isC d = true → contsB (byteAt s) i k = true) ∧ (isC d = false → contsB (byteAt s) i k = false) ∧ rAcc (byteAt s) i (((byteAt s i : Nat) : Int) % 8) k = bits BinOp.or IntKind.i32 (wrap32 (r * 64)) ((d : Int) % 64)) := by
                      intro d hd
                      obtain ⟨q, rfl⟩ : ∃ q, k = q + 1 := ⟨k - 1, by omega⟩
                      obtain ⟨h1, h2⟩ := HR.out
                      rw [Nat.add_sub_cancel] at h1 h2
                      subst hd
                      exact ⟨fun h => by rw [contsB, h2, h]; rfl, fun h => by rw [contsB, h]; simp, by rw [rAcc, h1]⟩
                    generalize hd : byteAt s (i + k) = d at *
                    have HD2 := HD.out d rfl
                    have HD3 : Hid ((isC d = true → contsB (byteAt s) i k = true) ∧ (isC d = false → contsB (byteAt s) i k = false) ∧ rAcc (byteAt s) i (((byteAt s i : Nat) : Int) % 8) k = bits BinOp.or IntKind.i32 (wrap32 (r * 64)) ((d : Int) % 64)) := HD2
                    clear HD HD2 hd
                    cases hcd : (bits BinOp.and IntKind.u8 (d : Int) 192 != 128) with
                    | true =>
                      have HI : Hid (isC d = false) := by unfold isC; rw [hcd]; rfl
                      go_wp2
                      go_ret
                      refine ⟨ret_bool ?_, rfl⟩
                      have hcf : contsB (byteAt s) i (4 - 1) = false := by
                        have h1 := HD3.out.2.1 HI.out
                        cases hx : contsB (byteAt s) i (4 - 1) with
                        | false => rfl
                        | true =>
                          rw [contsB_iff] at hx
                          have h2 : contsB (byteAt s) i k = true := (contsB_iff _ _ _).2 (fun j h1 h2 => hx j h1 (by omega))
                          rw [h1] at h2; cases h2
                      rw [← HF.out, okF_bad _ _ _ _ hlt (Or.inl (by rw [HT.out]; unfold tail; rw [hcf]; rw [if_neg (fun h => by cases h.1)]))]
                    | false =>
                      have HI : Hid (isC d = true) := by unfold isC; rw [hcd]; rfl
                      go_wp2
                      go_round
                      case rel => exact ⟨_, k + 1, by omega, by omega, rfl, by go_num, by rw [Nat.add_sub_cancel]; exact ⟨HD3.out.2.2.symm, HD3.out.1 HI.out⟩⟩
                      case measure => simp [intOf]; omega
                  · obtain rfl : k = 4 := by omega
                    have HK : Hid (∀ q, okR 65536 r = q → seq (byteAt s) i = if q = true then 4 else 0) := by
                      intro q hq
                      obtain ⟨h1, h2⟩ := HR.out
                      rw [HT.out]
                      unfold tail
                      rw [← h1, h2, hq]
                      cases q <;> rfl
                    by_cases ho : 65536 ≤ r
                    · by_cases ho2 : r ≤ 1114111
                      · by_cases ho3 : 55296 ≤ r
                        · by_cases ho4 : r ≤ 57343
                          · have HS : Hid (seq (byteAt s) i = 0) := by
                              have := HK.out false (decide_eq_false (by omega))
                              exact this
                            clear HK
                            go_wp2
                            go_ret
                            exact ⟨ret_bool (by rw [← HF.out, okF_bad _ _ _ _ hlt (Or.inl HS.out)]), rfl⟩
                          · have HS : Hid (seq (byteAt s) i = 4) := by
                              have := HK.out true (decide_eq_true (by omega))
                              exact this
                            clear HK
                            go_wp2
                            go_round
                            case rel => exact ⟨i + 4, f, by omega, by omega, by go_num, by rw [← HF.out, okF_step _ _ _ _ 4 hlt HS.out (by omega) (by omega)]; exact (rfl : _ = _)⟩
                            case measure => simp [intOf]; omega
                        · exfalso; omega
                      · have HS : Hid (seq (byteAt s) i = 0) := by
                          have := HK.out false (decide_eq_false (by omega))
                          exact this
                        clear HK
                        go_wp2
                        go_ret
                        exact ⟨ret_bool (by rw [← HF.out, okF_bad _ _ _ _ hlt (Or.inl HS.out)]), rfl⟩
                    · have HS : Hid (seq (byteAt s) i = 0) := by
                        have := HK.out false (decide_eq_false (by omega))
                        exact this
                      clear HK
                      go_wp2
                      go_ret
                      exact ⟨ret_bool (by rw [← HF.out, okF_bad _ _ _ _ hlt (Or.inl HS.out)]), rfl⟩
              · have HS : Hid (seq (byteAt s) i = 0 ∨ s.size - i < seq (byteAt s) i) := by
                  rw [seq4 (byteAt s) i (by omega) HL.out]
                  rcases tail_cases (byteAt s) i 4 (((byteAt s i : Nat) : Int) % 8) 65536 with h | ⟨h, _⟩
                  · left; exact h
                  · right; rw [h]; omega
                go_wp2
                go_ret
                exact ⟨ret_bool (by rw [← HF.out, okF_bad _ _ _ _ hlt HS.out]), rfl⟩
            | false =>
              have HS : Hid (seq (byteAt s) i = 0) := seq0 _ _ h1' ⟨hm1, hm2, hm3⟩
              go_wp2
              go_ret
              exact ⟨ret_bool (by rw [← HF.out, okF_bad _ _ _ _ hlt (Or.inl HS.out)]), rfl⟩
    · have HE : Hid (okS s = true) := by
        have := HF.out
        rw [okF_end _ _ _ _ (by omega)] at this
        exact this.symm
      go_wp2
      go_ret
      exact ⟨ret_bool HE.out, rfl⟩

end Go.Proofs.Qxb6002359a
