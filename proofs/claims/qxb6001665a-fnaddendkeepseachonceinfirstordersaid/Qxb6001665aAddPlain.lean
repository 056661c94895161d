/-
  Seat b6001665a: plain lists and functions: the first index; each element once, in the order of its first occurrence.
-/
namespace Go.Proofs.Qxb6001665a

/-- The first index below n at which f is x; -1 where there is none. -/
def idxF (f : Nat → Int) (x : Int) : Nat → Int
  | 0 => -1
  | n + 1 => if 0 ≤ idxF f x n then idxF f x n else if f n = x then (n : Int) else -1

theorem idxF_range (f : Nat → Int) (x : Int) : ∀ n, idxF f x n = -1 ∨ (0 ≤ idxF f x n ∧ idxF f x n < n) := by
  intro n
  induction n with
  | zero => left; rfl
  | succ n ih =>
    unfold idxF
    by_cases h : 0 ≤ idxF f x n
    · rw [if_pos h]; right; omega
    · rw [if_neg h]
      by_cases e : f n = x
      · rw [if_pos e]; right; omega
      · rw [if_neg e]; left; rfl

theorem idxF_none (f : Nat → Int) (x : Int) : ∀ n, (∀ j, j < n → f j ≠ x) → idxF f x n = -1 := by
  intro n
  induction n with
  | zero => intro _; rfl
  | succ n ih =>
    intro h
    have h1 := ih (fun j hj => h j (by omega))
    unfold idxF
    rw [h1, if_neg (by omega), if_neg (h n (by omega))]

theorem idxF_first (f : Nat → Int) (x : Int) (k : Nat) (hk : f k = x) (hj : ∀ j, j < k → f j ≠ x) : ∀ d, idxF f x (k + 1 + d) = k := by
  intro d
  induction d with
  | zero =>
    show idxF f x (k + 1) = k
    unfold idxF
    rw [idxF_none f x k hj, if_neg (by omega), if_pos hk]
  | succ d ih =>
    show idxF f x (k + 1 + d + 1) = k
    rw [idxF, ih, if_pos (by omega)]

theorem idxF_at (f : Nat → Int) (x : Int) (k n : Nat) (hkn : k < n) (hk : f k = x) (hj : ∀ j, j < k → f j ≠ x) : idxF f x n = k := by
  have := idxF_first f x k hk hj (n - (k + 1))
  rwa [show k + 1 + (n - (k + 1)) = n from by omega] at this

/-- An element that is met below k is first met there. -/
theorem idxF_met (f : Nat → Int) (x : Int) : ∀ k n, k ≤ n → (∃ j, j < k ∧ f j = x) → 0 ≤ idxF f x n ∧ idxF f x n < k := by
  intro k
  induction k with
  | zero => intro n _ ⟨j, hj, _⟩; omega
  | succ k ih =>
    intro n hn ⟨j, hj, e⟩
    by_cases h : ∃ j, j < k ∧ f j = x
    · have := ih n (by omega) h; omega
    · have hj' : j = k := by
        by_cases e2 : j = k
        · exact e2
        · exact absurd ⟨j, by omega, e⟩ h
      subst hj'
      have := idxF_at f x j n (by omega) e (fun i hi e2 => h ⟨i, hi, e2⟩)
      omega

/-- The first k elements, each once, in the order of their first occurrence. -/
def dd (f : Nat → Int) : Nat → List Int
  | 0 => []
  | k + 1 => if f k ∈ dd f k then dd f k else dd f k ++ [f k]

theorem dd_in (f : Nat → Int) (k : Nat) (h : f k ∈ dd f k) : dd f (k + 1) = dd f k := by
  show (if f k ∈ dd f k then dd f k else dd f k ++ [f k]) = _
  rw [if_pos h]
theorem dd_out (f : Nat → Int) (k : Nat) (h : ¬ f k ∈ dd f k) : dd f (k + 1) = dd f k ++ [f k] := by
  show (if f k ∈ dd f k then dd f k else dd f k ++ [f k]) = _
  rw [if_neg h]

theorem dd_length (f : Nat → Int) : ∀ k, (dd f k).length ≤ k := by
  intro k
  induction k with
  | zero => exact Nat.le_refl _
  | succ k ih =>
    by_cases h : f k ∈ dd f k
    · rw [dd_in f k h]; omega
    · rw [dd_out f k h, List.length_append, List.length_singleton]; omega

theorem dd_mem (f : Nat → Int) (x : Int) : ∀ k, x ∈ dd f k ↔ ∃ j, j < k ∧ f j = x := by
  intro k
  induction k with
  | zero => constructor
            · intro h; exact absurd h List.not_mem_nil
            · intro ⟨j, hj, _⟩; omega
  | succ k ih =>
    by_cases h : f k ∈ dd f k
    · rw [dd_in f k h, ih]
      constructor
      · intro ⟨j, hj, e⟩; exact ⟨j, by omega, e⟩
      · intro ⟨j, hj, e⟩
        by_cases e2 : j = k
        · subst e2; rw [← ih, ← e]; exact h
        · exact ⟨j, by omega, e⟩
    · rw [dd_out f k h, List.mem_append, ih, List.mem_singleton]
      constructor
      · intro h2
        rcases h2 with ⟨j, hj, e⟩ | e
        · exact ⟨j, by omega, e⟩
        · exact ⟨k, by omega, e.symm⟩
      · intro ⟨j, hj, e⟩
        by_cases e2 : j = k
        · subst e2; right; exact e.symm
        · left; exact ⟨j, by omega, e⟩

theorem dd_order (f : Nat → Int) (n : Nat) : ∀ k, k ≤ n → (dd f k).Pairwise (fun a b => idxF f a n < idxF f b n) := by
  intro k
  induction k with
  | zero => intro _; exact List.Pairwise.nil
  | succ k ih =>
    intro hk
    by_cases h : f k ∈ dd f k
    · rw [dd_in f k h]; exact ih (by omega)
    · rw [dd_out f k h, List.pairwise_append]
      refine ⟨ih (by omega), List.pairwise_singleton _ _, ?_⟩
      intro a ha b hb
      rw [List.mem_singleton] at hb
      subst hb
      have h1 := idxF_met f a k n (by omega) ((dd_mem f a k).1 ha)
      have h2 := idxF_at f (f k) k n (by omega) rfl (fun j hj e => h ((dd_mem f (f k) k).2 ⟨j, hj, e⟩))
      omega

/-- The element at place i of a list, 0 past its end. -/
def el (l : List Int) (i : Nat) : Int := l.getD i 0

theorem el_mem (l : List Int) (i : Nat) (h : i < l.length) : el l i ∈ l := by
  unfold el
  rw [List.getD_eq_getElem?_getD, List.getElem?_eq_getElem h]
  exact List.getElem_mem h

theorem mem_el (l : List Int) (x : Int) (h : x ∈ l) : ∃ j, j < l.length ∧ el l j = x := by
  obtain ⟨j, hj, e⟩ := List.getElem_of_mem h
  refine ⟨j, hj, ?_⟩
  unfold el
  rw [List.getD_eq_getElem?_getD, List.getElem?_eq_getElem hj]
  exact e

theorem dd_lt (f : Nat → Int) (n i j : Nat) (hij : i < j) (hj : j < (dd f n).length) : idxF f (el (dd f n) i) n < idxF f (el (dd f n) j) n := by
  have h := List.pairwise_iff_getElem.1 (dd_order f n n (Nat.le_refl _)) i j (by omega) hj hij
  unfold el
  rw [List.getD_eq_getElem?_getD, List.getD_eq_getElem?_getD, List.getElem?_eq_getElem hj, List.getElem?_eq_getElem (show i < (dd f n).length from by omega)]
  exact h

/-- Each element of the list is found in it at its own place. -/
theorem dd_self (f : Nat → Int) (n k : Nat) (hk : k < (dd f n).length) : idxF (el (dd f n)) (el (dd f n) k) (dd f n).length = k := by
  refine idxF_at _ _ k _ hk rfl (fun j hj e => ?_)
  have := dd_lt f n j k hj hk
  rw [e] at this
  omega

theorem dd_found (f : Nat → Int) (n k : Nat) (hk : k < n) : 0 ≤ idxF (el (dd f n)) (f k) (dd f n).length := by
  obtain ⟨j, hj, e⟩ := mem_el (dd f n) (f k) ((dd_mem f (f k) n).2 ⟨k, hk, rfl⟩)
  exact (idxF_met (el (dd f n)) (f k) (dd f n).length (dd f n).length (Nat.le_refl _) ⟨j, hj, e⟩).1

theorem dd_from (f : Nat → Int) (n k : Nat) (hk : k < (dd f n).length) : 0 ≤ idxF f (el (dd f n) k) n :=
  (idxF_met f _ n n (Nat.le_refl _) ((dd_mem f _ n).1 (el_mem _ _ hk))).1

theorem dd_there (f : Nat → Int) (n k : Nat) (hk : k < n) : f k ∈ dd f n := (dd_mem f (f k) n).2 ⟨k, hk, rfl⟩

theorem idxF_mem (l : List Int) (x : Int) : decide (0 ≤ idxF (el l) x l.length) = decide (x ∈ l) := by
  by_cases h : x ∈ l
  · obtain ⟨j, hj, e⟩ := mem_el l x h
    rw [decide_eq_true h, decide_eq_true (idxF_met (el l) x l.length l.length (Nat.le_refl _) ⟨j, hj, e⟩).1]
  · rw [decide_eq_false h, idxF_none (el l) x l.length (fun j hj e => h (by rw [← e]; exact el_mem l j hj))]
    rfl

end Go.Proofs.Qxb6001665a
