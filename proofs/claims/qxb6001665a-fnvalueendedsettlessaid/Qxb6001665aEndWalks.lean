/-
  Seat b6001665a: the walk of FnValueEndedSettles, by the cases of what is expected.
-/
import Derived.Test.Qxb6001665aRows
import Derived.WalkKit
import Derived.WalkSpells
import Derived.WalkLawsBesides
import Derived.RowKit3
namespace Go.Proofs.Qxb6001665a
open Go.RowKit

set_option maxHeartbeats 1000000 in
theorem end_zero (w : World) : Calls Try.prog 12 #[.int .u8 0] w fun e w' => e = .returned (.bool true) ∧ Grown w w' := by
  go_enter Try.func12, Try.ntmps12
  go_wp2
  go_end0
  go_wp2
  go_end0
  go_wp2
  go_end0
  go_wp2
  go_end0
  go_wp2
  go_ret
  exact ⟨rfl, by repeat (first | exact Grown.refl _ | apply Grown.drew | apply Grown.alloc)⟩

set_option maxHeartbeats 1000000 in
theorem end_one (w : World) : Calls Try.prog 12 #[.int .u8 1] w fun e w' => e = .returned (.bool true) ∧ Grown w w' := by
  go_enter Try.func12, Try.ntmps12
  go_wp2
  go_end0
  go_wp2
  go_end0
  go_wp2
  go_end0
  go_wp2
  go_end0
  go_wp2
  go_ret
  exact ⟨rfl, by repeat (first | exact Grown.refl _ | apply Grown.drew | apply Grown.alloc)⟩

set_option maxHeartbeats 1000000 in
theorem end_two (w : World) : Calls Try.prog 12 #[.int .u8 2] w fun e w' => e = .returned (.bool true) ∧ Grown w w' := by
  go_enter Try.func12, Try.ntmps12
  go_wp2
  go_end0
  go_wp2
  go_end0
  go_wp2
  go_end0
  go_wp2
  go_end0
  go_wp2
  go_ret
  exact ⟨rfl, by repeat (first | exact Grown.refl _ | apply Grown.drew | apply Grown.alloc)⟩

set_option maxHeartbeats 1000000 in
theorem end_seven (w : World) : Calls Try.prog 12 #[.int .u8 7] w fun e w' => e = .returned (.bool true) ∧ Grown w w' := by
  go_enter Try.func12, Try.ntmps12
  go_wp2
  go_end0
  go_wp2
  go_end0
  go_wp2
  go_end0
  go_wp2
  go_end0
  go_wp2
  go_ret
  exact ⟨rfl, by repeat (first | exact Grown.refl _ | apply Grown.drew | apply Grown.alloc)⟩

set_option maxHeartbeats 1000000 in
theorem end_other (x : Int) (h0 : (x == 0) = false) (h1 : (x == 1) = false) (h2 : (x == 2) = false) (h7 : (x == 7) = false) (w : World) : Calls Try.prog 12 #[.int .u8 x] w fun e w' => e = .returned (.bool true) ∧ Grown w w' := by
  go_enter Try.func12, Try.ntmps12
  go_wp2
  go_end0
  go_wp2
  go_end0
  go_wp2
  go_end0
  go_wp2
  go_end0
  go_wp2
  go_ret
  exact ⟨rfl, by repeat (first | exact Grown.refl _ | apply Grown.drew | apply Grown.alloc)⟩

theorem end_any (x : Int) (w : World) : Calls Try.prog 12 #[.int .u8 x] w fun e w' => e = .returned (.bool true) ∧ Grown w w' := by
  by_cases h0 : x = 0
  · subst h0; exact end_zero w
  · by_cases h1 : x = 1
    · subst h1; exact end_one w
    · by_cases h2 : x = 2
      · subst h2; exact end_two w
      · by_cases h7 : x = 7
        · subst h7; exact end_seven w
        · exact end_other x (by simpa using h0) (by simpa using h1) (by simpa using h2) (by simpa using h7) w

end Go.Proofs.Qxb6001665a
