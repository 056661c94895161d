/-
  Seat b6001665a: the walks on the way of FnAddEndKeepsEachOnceInFirstOrder: the first index, Contains, addEnd, the clone.
-/
import Derived.Test.Qxb6001665aRows
import Derived.Test.Qxb6001665aAddPlain
import Derived.WalkKit
import Derived.WalkSpells
import Derived.WalkLawsBesides
import Derived.Deep.OwnRows
import Derived.Deep.QuietTactic
import Derived.BigQuiet
import Derived.Laws.CopyOwn
namespace Go.Proofs.Qxb6001665a
open Go.RowKit

/-- The slice value that begins at 'a' and has n elements: element i lies in a cell and holds the number 'f i'. -/
def Sl (w : World) (a : Option Addr) (n : Nat) (f : Nat → Int) : Prop :=
  ∀ i, i < n → ∃ b o, a = some ⟨b, o, none⟩ ∧ w.cell? ⟨b, o + i, none⟩ = some (.int .i64 (f i))

theorem Sl.below {w w' : World} {a : Option Addr} {n : Nat} {f : Nat → Int} (h : Sl w a n f) (hb : Below w.heap.size w w') : Sl w' a n f := by
  intro i hi
  obtain ⟨b, o, ha, hc⟩ := h i hi
  exact ⟨b, o, ha, cell_later hb hc⟩

theorem Try.info3 : (Try.prog.info? 3).map (fun i => (i.zero, i.size, i.bytes)) = some (some (.int .i64 0), 1, 8) := by kernel_rfl
theorem Try.size3 : (Try.prog.info? 3).map (·.size) = some 1 := by kernel_rfl

set_option maxHeartbeats 400000 in
theorem bytes_any (a : Option Addr) (n c : Nat) (w : World) :
    Calls Try.prog 16 #[.slice a n c] w fun e w' => (∃ r, e = .returned (.bool r)) ∧ w = w' := by
  go_enter Try.func16, Try.ntmps16
  go_wp2
  all_goals (go_ret; exact ⟨⟨_, rfl⟩, rfl⟩)

theorem ret_i64 {a b : Int} (h : a = b) : Ending.returned (.int .i64 a) = .returned (.int .i64 b) := by rw [h]

set_option maxHeartbeats 400000 in
theorem indexOf_any (a : Option Addr) (n c : Nat) (f : Nat → Int) (x : Int) (w : World) (hn : n ≤ 1048576) (hs : Sl w a n f) :
    Calls Try.prog 19 #[.slice a n c, .int .i64 x] w fun e w' => e = .returned (.int .i64 (idxF f x n)) ∧ w' = w := by
  have HS : Hid (Sl w a n f) := hs
  clear hs
  go_enter Try.func19, Try.ntmps19
  go_wp2
  go_loop [5] (fun i => ∃ k : Nat, k ≤ n ∧ i = .int .i64 k ∧ Hid (∀ j, j < k → f j ≠ x)) (fun i => n - (intOf i).toNat)
  case atStart => exact ⟨0, Nat.zero_le _, rfl, fun j hj => absurd hj (Nat.not_lt_zero j)⟩
  case round =>
    obtain ⟨k, hk, rfl, hno⟩ := hrel
    by_cases hlt : k < n
    · obtain ⟨b, o, rfl, hc⟩ := HS.out k hlt
      by_cases hx : f k = x
      · have hxb : (f k == x) = true := by simp [hx]
        have HX : Hid (f k = x) := hx
        clear hx
        go_wp2
        go_ret
        exact ⟨ret_i64 (idxF_at f x k n hlt HX.out hno.out).symm, rfl⟩
      · have hxb : (f k == x) = false := by simp [hx]
        have HX : Hid (f k ≠ x) := hx
        clear hx
        go_wp2
        go_round
        case rel => exact ⟨k + 1, by omega, by go_num, fun j hj => by
          by_cases e : j = k
          · subst e; exact HX.out
          · exact hno.out j (by omega)⟩
        case measure => simp [intOf]; omega
    · obtain rfl : k = n := by omega
      go_wp2
      go_ret
      exact ⟨ret_i64 (idxF_none f x k hno.out).symm, rfl⟩

set_option maxHeartbeats 400000 in
theorem index_any (a : Option Addr) (n c : Nat) (f : Nat → Int) (x : Int) (w : World) (hn : n ≤ 1048576) (hs : Sl w a n f) :
    Calls Try.prog 51 #[.slice a n c, .int .i64 x] w fun e w' => e = .returned (.int .i64 (idxF f x n)) ∧ w' = w := by
  have HS : Hid (Sl w a n f) := hs
  clear hs
  go_enter Try.func51, Try.ntmps51
  go_wp2
  go_loop [8] (fun i => ∃ k : Nat, k ≤ n ∧ i = .int .i64 k ∧ Hid (∀ j, j < k → f j ≠ x)) (fun i => n - (intOf i).toNat)
  case atStart => exact ⟨0, Nat.zero_le _, rfl, fun j hj => absurd hj (Nat.not_lt_zero j)⟩
  case round =>
    obtain ⟨k, hk, rfl, hno⟩ := hrel
    by_cases hlt : k < n
    · obtain ⟨b, o, rfl, hc⟩ := HS.out k hlt
      by_cases hx : f k = x
      · have hxb : (x == f k) = true := by simp [hx]
        have HX : Hid (f k = x) := hx
        clear hx
        go_wp2
        go_ret
        exact ⟨ret_i64 (idxF_at f x k n hlt HX.out hno.out).symm, rfl⟩
      · have hxb : (x == f k) = false := by simp [Ne.symm hx]
        have HX : Hid (f k ≠ x) := hx
        clear hx
        go_wp2
        go_round
        case rel => exact ⟨k + 1, by omega, by go_num, fun j hj => by
          by_cases e : j = k
          · subst e; exact HX.out
          · exact hno.out j (by omega)⟩
        case measure => simp [intOf]; omega
    · obtain rfl : k = n := by omega
      go_wp2
      go_ret
      exact ⟨ret_i64 (idxF_none f x k hno.out).symm, rfl⟩

set_option maxHeartbeats 400000 in
theorem contains_any (a : Option Addr) (c : Nat) (l : List Int) (x : Int) (w : World) (hn : l.length ≤ 1048576) (hs : Sl w a l.length (el l)) :
    Calls Try.prog 49 #[.slice a l.length c, .int .i64 x] w fun e w' => e = .returned (.bool (decide (x ∈ l))) ∧ w' = w := by
  have hi := index_any a l.length c (el l) x w hn hs
  have hd : Hid (decide (0 ≤ idxF (el l) x l.length) = decide (x ∈ l)) := idxF_mem l x
  clear hs
  go_enter Try.func49, Try.ntmps49
  go_wp2_with fail
  refine hi.mono ?_
  clear hi
  rintro e w' ⟨rfl, rfl⟩
  go_wp2
  go_ret
  exact ⟨by rw [hd.out]; rfl, rfl⟩

/-- What an owned row of numbers is, as a slice value. -/
theorem own_form {w : World} {base : Nat} {v : Value} {l : List Int} (h : w.ownsRow base 3 1 v l.length (l.map (Value.int .i64))) :
    ∃ a c, v = .slice a l.length c ∧ Sl w a l.length (el l) ∧ (a = none → l.length = 0 ∧ c = 0) := by
  rcases h.2 with ⟨rfl, h0⟩ | ⟨g, cap, cur, rfl, hb, hg, hnc, hcm, hcs, htake⟩
  · exact ⟨none, 0, by rw [h0], fun i hi => by omega, fun _ => ⟨h0, rfl⟩⟩
  · refine ⟨some ⟨g, 0, none⟩, cap, rfl, fun i hi => ⟨g, 0, rfl, ?_⟩, fun e => by simp at e⟩
    have hc := h.cellAt i (by omega)
    rw [Nat.zero_add, hc]
    unfold el
    simp [hi]

/-- addEnd where the number is there: nothing is done. -/
theorem addEnd_in (a : Option Addr) (c : Nat) (l : List Int) (x : Int) (w : World) (hn : l.length ≤ 1048576) (hs : Sl w a l.length (el l)) (hx : x ∈ l) :
    Calls Try.prog 39 #[.slice a l.length c, .int .i64 x] w fun e w' => e = .returned (.slice a l.length c) ∧ w' = w := by
  have hi := contains_any a c l x w hn hs
  rw [decide_eq_true hx] at hi
  clear hs hx
  go_enter Try.func39, Try.ntmps39
  go_wp2_with fail
  refine hi.mono ?_
  clear hi
  rintro e w' ⟨rfl, rfl⟩
  go_wp2
  go_ret
  exact ⟨rfl, rfl⟩

set_option maxHeartbeats 400000 in
/-- addEnd where it is not there: it is appended. -/
theorem addEnd_out (a : Option Addr) (c : Nat) (l : List Int) (x : Int) (w : World) (base : Nat) (hn : l.length ≤ 1024) (hs : Sl w a l.length (el l)) (hx : ¬ x ∈ l)
    (hown : w.ownsRow base 3 1 (.slice a l.length c) l.length (l.map (Value.int .i64))) (hb : base ≤ w.heap.size) :
    Calls Try.prog 39 #[.slice a l.length c, .int .i64 x] w fun e w' => ∃ v', e = .returned v' ∧ w'.ownsRow base 3 1 v' (l ++ [x]).length ((l ++ [x]).map (Value.int .i64)) ∧ Below base w w' := by
  have hi := contains_any a c l x w (by omega) hs
  rw [decide_eq_false hx] at hi
  obtain ⟨i0, hi0, hz0, hz1, hz2⟩ := info_parts Try.info3
  have HO : Hid (w.ownsRow base 3 1 (.slice a l.length c) l.length (l.map (Value.int .i64))) := hown
  clear hs hx hown
  go_enter Try.func39, Try.ntmps39
  go_wp2_with fail
  refine hi.mono ?_
  clear hi
  rintro e w' ⟨rfl, rfl⟩
  go_wp2_with (at_builtin; refine wpList_append_own _ rfl _ _ 26 rfl base 3 i0 (.int .i64 0) 1 8 Try.underlying26 hi0 hz0 hz1 hz2 rfl (by decide) _ _ _ rfl (HO.out.alloc _) ⟨w'.heap.size, 0, none⟩ 1 1 [.int .i64 x] rfl rfl ?c1 ?c2 ?c3 ?c4 ?c5 ?_)
  case c1 => exact cell_one_new _ _ _
  case c2 => intro u hu; simp at hu; subst hu; rfl
  case c3 => unfold maxLen; omega
  case c4 => omega
  case c5 => simp; omega
  intro v' w1 hown' hgrow _
  have HW : Hid (w1.ownsRow base 3 1 v' (l ++ [x]).length ((l ++ [x]).map (Value.int .i64)) ∧ Below base w' w1) := by
    refine ⟨by simpa using hown', ?_⟩
    refine ((Below.refl _ _).alloc hb _).grown hgrow (by simp; omega) (fun k hk => ?_)
    exact (HO.out.lt k hk).1
  clear hown' hgrow
  go_wp2
  go_ret
  exact ⟨_, rfl, HW.out.1, HW.out.2⟩

theorem zzAddEnd_in (a : Option Addr) (c : Nat) (l : List Int) (x : Int) (w : World) (hn : l.length ≤ 1048576) (hs : Sl w a l.length (el l)) (hx : x ∈ l) :
    Calls Try.prog 18 #[.slice a l.length c, .int .i64 x] w fun e w' => e = .returned (.slice a l.length c) ∧ w' = w := by
  have hi := addEnd_in a c l x w hn hs hx
  clear hs hx
  go_enter Try.func18, Try.ntmps18
  go_wp2_with fail
  refine hi.mono ?_
  clear hi
  rintro e w' ⟨rfl, rfl⟩
  go_wp2
  go_ret
  exact ⟨rfl, rfl⟩

theorem zzAddEnd_out (a : Option Addr) (c : Nat) (l : List Int) (x : Int) (w : World) (base : Nat) (hn : l.length ≤ 1024) (hs : Sl w a l.length (el l)) (hx : ¬ x ∈ l)
    (hown : w.ownsRow base 3 1 (.slice a l.length c) l.length (l.map (Value.int .i64))) (hb : base ≤ w.heap.size) :
    Calls Try.prog 18 #[.slice a l.length c, .int .i64 x] w fun e w' => ∃ v', e = .returned v' ∧ w'.ownsRow base 3 1 v' (l ++ [x]).length ((l ++ [x]).map (Value.int .i64)) ∧ Below base w w' := by
  have hi := addEnd_out a c l x w base hn hs hx hown hb
  clear hs hx hown
  go_enter Try.func18, Try.ntmps18
  go_wp2_with fail
  refine hi.mono ?_
  clear hi
  rintro e w' ⟨v', rfl, ho, hbl⟩
  have HW : Hid (w'.ownsRow base 3 1 v' (l ++ [x]).length ((l ++ [x]).map (Value.int .i64)) ∧ Below base w w') := ⟨ho, hbl⟩
  clear ho hbl
  go_wp2
  go_ret
  exact ⟨_, rfl, HW.out.1, HW.out.2⟩

set_option maxHeartbeats 400000 in
theorem clone_nil (w : World) : Calls Try.prog 17 #[.slice none 0 0] w fun e w' => e = .returned (.slice none 0 0) ∧ w' = w := by
  have hq : ∀ (w : World) (a : Option Addr) (n c n' c' : Nat), (binOp .eql 26 (.slice a n c) (.slice none n' c')).run Try.prog w = .ok (.bool a.isNone) w := fun w a n c n' c' => Lib.run_eql_slice_nil w _ _ a n c n' c' Try.underlying26
  go_enter Try.func17, Try.ntmps17
  go_wp2
  go_ret
  exact ⟨rfl, rfl⟩

set_option maxHeartbeats 400000 in
theorem clone_some (x : Addr) (n c : Nat) (f : Nat → Int) (w : World) (hn : n ≤ 1048576) (hs : Sl w (some x) n f) :
    Calls Try.prog 17 #[.slice (some x) n c] w fun e w' => e = .returned (.slice (some ⟨w.heap.size, 0, none⟩) n n) ∧ w'.rowIs w.heap.size 3 n (fun i => .int .i64 (f i)) ∧ Below w.heap.size w w' := by
  have hq : ∀ (w : World) (a : Option Addr) (n c n' c' : Nat), (binOp .eql 26 (.slice a n c) (.slice none n' c')).run Try.prog w = .ok (.bool a.isNone) w := fun w a n c n' c' => Lib.run_eql_slice_nil w _ _ a n c n' c' Try.underlying26
  have hmk := run_make_row' (P := Try.prog) 26 3 (.int .i64 0) 8 Try.underlying26 Try.info3 rfl .i64 .i64 n (by omega) (by omega)
  have HS : Hid (Sl w (some x) n f) := hs
  clear hs
  obtain ⟨cs, hcs⟩ : ∃ cs : List Value, cs = (List.range n).map (fun i => Value.int .i64 (f i)) := ⟨_, rfl⟩
  have hl : cs.length = n := by rw [hcs]; simp
  have HC : Hid (cs = (List.range n).map (fun i => Value.int .i64 (f i))) := hcs
  have HL : Hid (cs.length = n) := hl
  clear hcs hl
  obtain ⟨W2, hrun, hrow, hbel⟩ : ∃ W2, (Builtin.copy_ #[26, 26] 3 #[.slice (some ⟨w.heap.size, 0, none⟩) n n, .slice (some x) n c]).run Try.prog (w.alloc (.cells (madeCells #[.int .i64 0] n) 3)) = .ok (.int .i64 n) W2 ∧
      W2.rowIs w.heap.size 3 n (fun i => .int .i64 (f i)) ∧ Below w.heap.size w W2 := by
    have hr := run_copy_row (P := Try.prog) (w.alloc (.cells (madeCells #[.int .i64 0] n) 3)) 26 26 3 3 w.heap.size 0 n n x n c (madeCells #[.int .i64 0] n) 3 cs Try.underlying26 Try.size3 (heap_alloc_new w _)
      (by rw [HL.out]; simp)
      (by
        intro j v hj
        rw [HC.out] at hj
        have hjn : j < n := by
          have := (List.getElem?_eq_some_iff.1 hj).1
          simpa using this
        simp [hjn] at hj
        subst hj
        obtain ⟨b, o, e, hc⟩ := HS.out j hjn
        obtain ⟨b0, o0, e0, hc0⟩ := HS.out 0 (by omega)
        obtain rfl : x = ⟨b, o, none⟩ := by simpa using e
        rw [Go.WideShapes.add_plain]
        exact Lib.cell?_alloc_some _ hc)
      (by rw [HL.out]; simp [size_madeCells])
      (by
        intro v hv
        rw [HC.out] at hv
        simp at hv
        obtain ⟨i, _, rfl⟩ := hv
        rfl)
    have e : (madeCells #[Value.int .i64 0] n).toList.take 0 ++ cs ++ (madeCells #[Value.int .i64 0] n).toList.drop (0 + cs.length) = cs := by
      rw [List.take_zero, List.nil_append, HL.out, Nat.zero_add, List.drop_of_length_le (by simp [size_madeCells]), List.append_nil]
    rw [e, HL.out] at hr
    refine ⟨(w.alloc (.cells (madeCells #[.int .i64 0] n) 3)).setRow w.heap.size cs.toArray, hr, ?_, ?_⟩
    · refine ⟨cs.toArray, setRow_heap _ _ _ _ _ _ (heap_alloc_new w _), by simpa using HL.out, fun i hi => ?_⟩
      rw [HC.out]
      simp [hi]
    · exact below_setRow ((Below.refl _ _).alloc (Nat.le_refl _) _) (Nat.le_refl _) _
  have HW : Hid (W2.rowIs w.heap.size 3 n (fun i => .int .i64 (f i)) ∧ Below w.heap.size w W2) := ⟨hrow, hbel⟩
  clear hrow hbel HS HC HL
  go_enter Try.func17, Try.ntmps17
  go_wp2
  go_ret
  exact ⟨rfl, HW.out.1, HW.out.2⟩

theorem clone_any (a : Option Addr) (n c : Nat) (f : Nat → Int) (w : World) (hn : n ≤ 1048576) (hnil : a = none → n = 0 ∧ c = 0) (hs : Sl w a n f) :
    Calls Try.prog 17 #[.slice a n c] w fun e w' => ∃ a' c', e = .returned (.slice a' n c') ∧ Sl w' a' n f ∧ Below w.heap.size w w' := by
  cases a with
  | none =>
    obtain ⟨rfl, rfl⟩ := hnil rfl
    refine (clone_nil w).mono fun e w' ⟨he, hw⟩ => ?_
    subst hw
    exact ⟨none, 0, he, hs, Below.refl _ _⟩
  | some x =>
    refine (clone_some x n c f w hn hs).mono fun e w' ⟨he, hr, hb⟩ => ?_
    exact ⟨_, _, he, fun i hi => ⟨_, 0, rfl, by simpa using hr.cell hi⟩, hb⟩

end Go.Proofs.Qxb6001665a
