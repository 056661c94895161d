/-
  Seat b6001769a: the order of float64 words, as the law needs it: plain, no Go in sight.
-/
import Derived.WalkKit
import Derived.Laws.Cover2
namespace Go.Proofs.Qxb6001769a
open Ieee

/-- Which of minus infinity, a number, infinity. -/
def cls : Datum → Int
  | .number .. => 0
  | .infinity s => if s then -1 else 1
  | .nan .. => 0
/-- A number, counted in the format's least places. -/
def val (L : Int) : Datum → Int
  | .number s m i => signed s m (i - L).toNat
  | _ => 0
/-- What 'read' gives of double: no place below the least. -/
def Fit (L : Int) (d : Datum) : Prop := match d with | .number _ _ i => L ≤ i | _ => True

theorem signed_scale (s : Bool) (m a b : Nat) : signed s m (a + b) = signed s m a * 2 ^ b := by
  unfold signed
  rw [Nat.shiftLeft_eq, Nat.shiftLeft_eq, Nat.pow_add]
  cases s
  · simp only [Bool.false_eq_true, if_false, Int.natCast_mul, Int.natCast_pow, Int.mul_assoc]
    rfl
  · simp only [if_true, Int.natCast_mul, Int.natCast_pow, Int.neg_mul, Int.mul_assoc]
    rfl

theorem two_pow_pos' (b : Nat) : (0 : Int) < 2 ^ b := Int.pow_pos (by decide)

theorem cmp_scale (x y : Int) (b : Nat) : compare (x * 2 ^ b) (y * 2 ^ b) = compare x y := by
  have hp := two_pow_pos' b
  rcases Int.lt_trichotomy x y with h | h | h
  · rw [Int.compare_eq_lt.2 h, Int.compare_eq_lt.2 (Int.mul_lt_mul_of_pos_right h hp)]
  · subst h; simp
  · rw [Int.compare_eq_gt.2 h, Int.compare_eq_gt.2 (Int.mul_lt_mul_of_pos_right h hp)]

theorem order_num (L : Int) (s t : Bool) (m n : Nat) (i j : Int) (hi : L ≤ i) (hj : L ≤ j) :
    (Datum.number s m i).order (.number t n j) = some (compare (signed s m (i - L).toNat) (signed t n (j - L).toNat)) := by
  show some (compare (signed s m (i - min i j).toNat) (signed t n (j - min i j).toNat)) = _
  have e1 : (i - L).toNat = (i - min i j).toNat + (min i j - L).toNat := by omega
  have e2 : (j - L).toNat = (j - min i j).toNat + (min i j - L).toNat := by omega
  rw [e1, e2, signed_scale, signed_scale, cmp_scale]

/-- The order of two data that are no NaN, by kind and number. -/
theorem order_lt (L : Int) (d e : Datum) (hd : Fit L d) (he : Fit L e) (nd : d.isNaN = false) (ne : e.isNaN = false) :
    (d.order e = some .lt ↔ (cls d < cls e ∨ (cls d = cls e ∧ val L d < val L e))) ∧ (d.order e = some .eq ↔ (cls d = cls e ∧ val L d = val L e)) ∧
      (d.order e = some .gt ↔ (cls e < cls d ∨ (cls d = cls e ∧ val L e < val L d))) := by
  cases d with
  | nan s t => simp [Datum.isNaN] at nd
  | number s m i =>
    cases e with
    | nan s t => simp [Datum.isNaN] at ne
    | number t n j =>
      rw [order_num L s t m n i j hd he]
      simp only [cls, val, Option.some.injEq]
      generalize signed s m (i - L).toNat = x
      generalize signed t n (j - L).toNat = y
      rcases Int.lt_trichotomy x y with h | h | h
      · rw [Int.compare_eq_lt.2 h]; simp; omega
      · subst h; simp
      · rw [Int.compare_eq_gt.2 h]; simp; omega
    | infinity t => cases t <;> simp [Datum.order, cls]
  | infinity s =>
    cases e with
    | nan s t => simp [Datum.isNaN] at ne
    | number t n j => cases s <;> simp [Datum.order, cls]
    | infinity t =>
      cases s <;> cases t
      · simp [Datum.order, cls, val]
      · have e : (Datum.infinity false).order (.infinity true) = some .gt := by decide
        rw [e]; simp [cls]
      · have e : (Datum.infinity true).order (.infinity false) = some .lt := by decide
        rw [e]; simp [cls]
      · simp [Datum.order, cls, val]

theorem order_nan_left (d e : Datum) (h : d.isNaN = true) : d.order e = none := by
  cases d with
  | nan s t => cases e <;> rfl
  | number => simp [Datum.isNaN] at h
  | infinity => simp [Datum.isNaN] at h
theorem order_nan_right (d e : Datum) (h : e.isNaN = true) : d.order e = none := by
  cases e with
  | nan s t => cases d <;> rfl
  | number => simp [Datum.isNaN] at h
  | infinity => simp [Datum.isNaN] at h

theorem fit_read (f : Format) (x : Nat) : Fit f.leastPlace (f.read x) := by
  unfold Format.read Fit
  dsimp only
  split
  · rename_i h
    split at h
    · cases h; omega
    · split at h
      · cases h; omega
      · split at h <;> cases h
  · trivial

/-- The order of two words of double. -/
abbrev od (x y : Nat) : Option Ordering := FloatKind.f64.format.order x y

theorem od_def (x y : Nat) : od x y = (double.read x).order (double.read y) := rfl

theorem notNaN_of (x : Nat) (h : od x x = some .eq) : (double.read x).isNaN = false := by
  cases hn : (double.read x).isNaN with
  | false => rfl
  | true => rw [od_def, order_nan_left _ _ hn] at h; cases h

theorem some_notNaN (x y : Nat) (r : Ordering) (h : od x y = some r) : (double.read x).isNaN = false ∧ (double.read y).isNaN = false := by
  constructor
  · cases hn : (double.read x).isNaN with
    | false => rfl
    | true => rw [od_def, order_nan_left _ _ hn] at h; cases h
  · cases hn : (double.read y).isNaN with
    | false => rfl
    | true => rw [od_def, order_nan_right _ _ hn] at h; cases h

/-- 'a <= b' and 'b < v' give 'a < v'. -/
theorem le_lt (a b v : Nat) (h1 : od a b = some .lt ∨ od a b = some .eq) (h2 : od b v = some .lt) : od a v = some .lt := by
  have n1 : (double.read a).isNaN = false ∧ (double.read b).isNaN = false := by
    rcases h1 with h | h
    · exact some_notNaN _ _ _ h
    · exact some_notNaN _ _ _ h
  have n2 := some_notNaN _ _ _ h2
  have f1 := order_lt double.leastPlace _ _ (fit_read double a) (fit_read double b) n1.1 n1.2
  have f2 := order_lt double.leastPlace _ _ (fit_read double b) (fit_read double v) n1.2 n2.2
  have f3 := order_lt double.leastPlace _ _ (fit_read double a) (fit_read double v) n1.1 n2.2
  rw [od_def] at h1 h2 ⊢
  rw [f3.1]
  rw [f2.1] at h2
  rw [f1.1, f1.2.1] at h1
  omega

/-- Of two words that are no NaN: 'a >= v' is 'not a < v'. -/
theorem ge_not_lt (a v : Nat) (ha : od a a = some .eq) (hv : od v v = some .eq) : (od a v == some .gt || od a v == some .eq) = !(od a v == some .lt) := by
  have f := order_lt double.leastPlace _ _ (fit_read double a) (fit_read double v) (notNaN_of a ha) (notNaN_of v hv)
  rw [← od_def] at f
  have hcase : od a v = some .lt ∨ od a v = some .eq ∨ od a v = some .gt := by
    rw [f.1, f.2.1, f.2.2]; omega
  rcases hcase with h | h | h <;> rw [h] <;> rfl

def pw (k : Nat) : Nat := 2 ^ k
theorem pw_le (k n : Nat) (h : k ≤ n) : 2 ^ k ≤ pw n := Nat.pow_le_pow_right (by omega) h
theorem signed_pw (m k : Nat) : signed false m k = ((m * pw k : Nat) : Int) := by
  unfold signed pw
  rw [Nat.shiftLeft_eq]
  rfl
/-- The greatest finite number, in least places. -/
def bigM : Nat := 9007199254740991 * pw 2045

theorem val_le (x : Nat) (h : (double.read x).isInfinity = false) : val double.leastPlace (double.read x) ≤ (bigM : Int) := by
  have key : ∀ (s : Bool) (m k : Nat), m ≤ 9007199254740991 → k ≤ 2045 → signed s m k ≤ (bigM : Int) := by
    intro s m k hm hk
    have h1 : m * 2 ^ k ≤ bigM := Nat.mul_le_mul hm (pw_le k 2045 hk)
    unfold signed
    rw [Nat.shiftLeft_eq]
    cases s
    · simp only [Bool.false_eq_true, if_false]
      exact Int.ofNat_le.2 h1
    · simp only [if_true]
      have : (0 : Int) ≤ (bigM : Int) := Int.natCast_nonneg _
      have : (0 : Int) ≤ ((m * 2 ^ k : Nat) : Int) := Int.natCast_nonneg _
      omega
  have hb : double.binade = 4503599627370496 := by decide
  have hi : double.infRung = 2047 * 4503599627370496 := by decide
  unfold Format.read at h ⊢
  dsimp only at h ⊢
  split
  · rename_i h1
    rw [hb] at h1
    show signed _ _ _ ≤ _
    refine key _ _ _ (by omega) ?_
    rw [Int.sub_self]; decide
  · rename_i h1
    split
    · rename_i h2
      rw [hb] at h1 ⊢
      rw [hi] at h2
      show signed _ _ _ ≤ _
      refine key _ _ _ (by omega) ?_
      omega
    · rename_i h2
      rw [if_neg h1, if_neg h2] at h
      split
      · rename_i h3
        rw [if_pos h3] at h
        simp [Datum.isInfinity] at h
      · show (0 : Int) ≤ _
        exact Int.natCast_nonneg _

/-- What is above the greatest finite word is below nothing. -/
theorem above_max (x v : Nat) (h : od x 9218868437227405311 = some .gt) : (od x v == some .lt) = false := by
  have n1 := some_notNaN _ _ _ h
  have hc : double.read 9218868437227405311 = .number false 9007199254740991 (double.leastPlace + 2045) := by decide
  have f := order_lt double.leastPlace _ _ (fit_read double x) (fit_read double 9218868437227405311) n1.1 n1.2
  rw [← od_def] at f
  have h' := f.2.2.1 h
  rw [hc] at h'
  have ev : val double.leastPlace (.number false 9007199254740991 (double.leastPlace + 2045)) = (bigM : Int) := by
    show signed false 9007199254740991 (double.leastPlace + 2045 - double.leastPlace).toNat = _
    rw [show (double.leastPlace + 2045 - double.leastPlace).toNat = 2045 from by omega, signed_pw]
    rfl
  rw [ev] at h'
  have hcl : cls (double.read x) = 1 := by
    by_cases hinf : (double.read x).isInfinity = true
    · cases hd : double.read x with
      | number s m i => rw [hd] at hinf; simp [Datum.isInfinity] at hinf
      | nan s t => rw [hd] at hinf; simp [Datum.isInfinity] at hinf
      | infinity s =>
        cases s with
        | false => rfl
        | true =>
          rw [hd] at h'
          simp only [cls] at h'
          simp at h'
    · have hv := val_le x (by simpa using hinf)
      exfalso
      have hcx : cls (double.read x) = 0 := by
        cases hd : double.read x with
        | number s m i => rfl
        | nan s t => rfl
        | infinity s => rw [hd] at hinf; simp [Datum.isInfinity] at hinf
      rw [hcx] at h'
      simp only [cls] at h'
      omega
  by_cases hv : (double.read v).isNaN = true
  · rw [od_def, order_nan_right _ _ hv]; rfl
  · have f2 := order_lt double.leastPlace _ _ (fit_read double x) (fit_read double v) n1.1 (by simpa using hv)
    rw [← od_def] at f2
    have hno : ¬ od x v = some .lt := by
      rw [f2.1, hcl]
      have h1 : cls (double.read v) ≤ 1 := by
        cases double.read v with
        | number => simp [cls]
        | nan => simp [cls]
        | infinity s => cases s <;> simp [cls]
      intro hh
      rcases hh with hh | ⟨hh, hlt⟩
      · omega
      · have z1 : val double.leastPlace (double.read x) = 0 := by
          cases hd : double.read x with
          | number s m i => rw [hd] at hcl; simp [cls] at hcl
          | nan => rfl
          | infinity => rfl
        have z2 : val double.leastPlace (double.read v) = 0 := by
          cases hd : double.read v with
          | number s m i => rw [hd] at hh; simp [cls] at hh
          | nan => rfl
          | infinity => rfl
        omega
    simpa using hno

end Go.Proofs.Qxb6001769a
