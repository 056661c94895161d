/-
  Seat b6002359a: valid UTF-8 as zzValidUTF8 reads it, as a plain function; a cut at a rune's start keeps it.
-/
import Derived.WalkKit
namespace Go.Proofs.Qxb6002359a
open Go.RowKit

/-- The byte at place i, 0 past the end. -/
def byteAt (s : ByteArray) (i : Nat) : Nat := if h : i < s.size then s[i].toNat else 0
theorem byteAt_lt (s : ByteArray) (i : Nat) : byteAt s i < 256 := by
  unfold byteAt
  split
  · exact UInt8.toNat_lt _
  · omega
theorem byteAt_in (s : ByteArray) (i : Nat) (h : i < s.size) : s[i].toNat = byteAt s i := by
  unfold byteAt; rw [dif_pos h]
theorem byteAt_extract (s : ByteArray) (c i : Nat) (hc : c ≤ s.size) (h : i < c) : byteAt (s.extract 0 c) i = byteAt s i := by
  have h1 : i < (s.extract 0 c).size := by rw [ByteArray.size_extract]; omega
  rw [← byteAt_in (s.extract 0 c) i h1, ← byteAt_in s i (by omega)]
  simp [ByteArray.getElem_extract]

/-- A byte that begins no rune. -/
def isC (c : Nat) : Bool := !(bits BinOp.and IntKind.u8 (c : Int) 192 != 128)

/-- What the loop has gathered of a rune after k more bytes. -/
def rAcc (b : Nat → Nat) (i : Nat) (r0 : Int) : Nat → Int
  | 0 => r0
  | k + 1 => bits BinOp.or IntKind.i32 (wrap32 (rAcc b i r0 k * 64)) ((b (i + (k + 1)) : Int) % 64)

/-- The last test on a rune. -/
def okR (least r : Int) : Bool := decide (least ≤ r ∧ r ≤ 1114111 ∧ (r < 55296 ∨ 57343 < r))

def contsB (b : Nat → Nat) (i : Nat) : Nat → Bool
  | 0 => true
  | k + 1 => contsB b i k && isC (b (i + (k + 1)))

theorem contsB_iff (b : Nat → Nat) (i : Nat) : ∀ k, contsB b i k = true ↔ ∀ j, 1 ≤ j → j ≤ k → isC (b (i + j)) = true := by
  intro k
  induction k with
  | zero => simp [contsB]; intro j h1 h2; omega
  | succ k ih =>
    rw [contsB, Bool.and_eq_true, ih]
    constructor
    · intro ⟨h1, h2⟩ j hj1 hj2
      by_cases e : j = k + 1
      · subst e; exact h2
      · exact h1 j hj1 (by omega)
    · intro h
      exact ⟨fun j h1 h2 => h j h1 (by omega), h (k + 1) (by omega) (by omega)⟩

/-- A rune of n bytes at i, its first bits r0, no less than 'least'. -/
def tail (b : Nat → Nat) (i n : Nat) (r0 least : Int) : Nat := if contsB b i (n - 1) = true ∧ okR least (rAcc b i r0 (n - 1)) = true then n else 0

/-- The length of the rune at i; 0: none is there. -/
def seq (b : Nat → Nat) (i : Nat) : Nat :=
  if b i < 128 then 1
  else if (bits BinOp.and IntKind.u8 (b i : Int) 224 == 192) = true then tail b i 2 ((b i : Int) % 32) 128
  else if (bits BinOp.and IntKind.u8 (b i : Int) 240 == 224) = true then tail b i 3 ((b i : Int) % 16) 2048
  else if (bits BinOp.and IntKind.u8 (b i : Int) 248 == 240) = true then tail b i 4 ((b i : Int) % 8) 65536
  else 0

theorem tail_cases (b : Nat → Nat) (i n : Nat) (r0 least : Int) : tail b i n r0 least = 0 ∨ (tail b i n r0 least = n ∧ contsB b i (n - 1) = true ∧ okR least (rAcc b i r0 (n - 1)) = true) := by
  unfold tail
  by_cases h : contsB b i (n - 1) = true ∧ okR least (rAcc b i r0 (n - 1)) = true
  · right; exact ⟨if_pos h, h.1, h.2⟩
  · left; exact if_neg h

theorem rAcc_congr (b b' : Nat → Nat) (i : Nat) (r0 : Int) : ∀ k, (∀ j, 1 ≤ j → j ≤ k → b' (i + j) = b (i + j)) → rAcc b' i r0 k = rAcc b i r0 k := by
  intro k
  induction k with
  | zero => intro _; rfl
  | succ k ih =>
    intro h
    rw [rAcc, rAcc, ih (fun j h1 h2 => h j h1 (by omega)), h (k + 1) (by omega) (by omega)]

theorem conts_congr (b b' : Nat → Nat) (i : Nat) : ∀ k, (∀ j, 1 ≤ j → j ≤ k → b' (i + j) = b (i + j)) → contsB b' i k = contsB b i k := by
  intro k
  induction k with
  | zero => intro _; rfl
  | succ k ih =>
    intro h
    rw [contsB, contsB, ih (fun j h1 h2 => h j h1 (by omega)), h (k + 1) (by omega) (by omega)]

theorem tail_congr (b b' : Nat → Nat) (i n : Nat) (r0 least : Int) (h : ∀ j, 1 ≤ j → j ≤ n - 1 → b' (i + j) = b (i + j)) : tail b' i n r0 least = tail b i n r0 least := by
  unfold tail
  rw [rAcc_congr b b' i r0 (n - 1) h, conts_congr b b' i (n - 1) h]

theorem seq_le (b : Nat → Nat) (i : Nat) : seq b i ≤ 4 := by
  unfold seq
  have t2 := tail_cases b i 2 ((b i : Int) % 32) 128
  have t3 := tail_cases b i 3 ((b i : Int) % 16) 2048
  have t4 := tail_cases b i 4 ((b i : Int) % 8) 65536
  split
  · omega
  · split
    · omega
    · split
      · omega
      · split
        · omega
        · omega

theorem seq_conts (b : Nat → Nat) (i j : Nat) (h1 : 1 ≤ j) (h2 : j < seq b i) : isC (b (i + j)) = true := by
  unfold seq at h2
  have t2 := tail_cases b i 2 ((b i : Int) % 32) 128
  have t3 := tail_cases b i 3 ((b i : Int) % 16) 2048
  have t4 := tail_cases b i 4 ((b i : Int) % 8) 65536
  split at h2
  · omega
  · split at h2
    · rcases t2 with t | ⟨t, hc, _⟩
      · omega
      · exact (contsB_iff b i _).1 hc j h1 (by omega)
    · split at h2
      · rcases t3 with t | ⟨t, hc, _⟩
        · omega
        · exact (contsB_iff b i _).1 hc j h1 (by omega)
      · split at h2
        · rcases t4 with t | ⟨t, hc, _⟩
          · omega
          · exact (contsB_iff b i _).1 hc j h1 (by omega)
        · omega

theorem lead_all : ∀ c : Fin 256, (c.val < 128 ∨ (bits BinOp.and IntKind.u8 (c.val : Int) 224 == 192) = true ∨ (bits BinOp.and IntKind.u8 (c.val : Int) 240 == 224) = true ∨ (bits BinOp.and IntKind.u8 (c.val : Int) 248 == 240) = true) → isC c.val = false := by
  decide +kernel

theorem seq_lead (b : Nat → Nat) (i : Nat) (hb : b i < 256) (h : seq b i ≠ 0) : isC (b i) = false := by
  refine lead_all ⟨b i, hb⟩ ?_
  unfold seq at h
  split at h
  · left; assumption
  · split at h
    · right; left; assumption
    · split at h
      · right; right; left; assumption
      · split at h
        · right; right; right; assumption
        · exact absurd rfl h

theorem seq_congr (b b' : Nat → Nat) (i c : Nat) (hc : i + seq b i ≤ c) (h0 : seq b i ≠ 0) (h : ∀ j, j < c → b' j = b j) : seq b' i = seq b i := by
  have hi : b' i = b i := h i (by omega)
  unfold seq at hc h0 ⊢
  rw [hi]
  have t2 := tail_cases b i 2 ((b i : Int) % 32) 128
  have t3 := tail_cases b i 3 ((b i : Int) % 16) 2048
  have t4 := tail_cases b i 4 ((b i : Int) % 8) 65536
  split
  · rfl
  · rename_i g1
    rw [if_neg g1] at hc h0
    split
    · rename_i g2
      rw [if_pos g2] at hc h0
      exact tail_congr b b' i 2 _ _ (fun j h1 h2 => h _ (by omega))
    · rename_i g2
      rw [if_neg g2] at hc h0
      split
      · rename_i g3
        rw [if_pos g3] at hc h0
        exact tail_congr b b' i 3 _ _ (fun j h1 h2 => h _ (by omega))
      · rename_i g3
        rw [if_neg g3] at hc h0
        split
        · rename_i g4
          rw [if_pos g4] at hc h0
          exact tail_congr b b' i 4 _ _ (fun j h1 h2 => h _ (by omega))
        · rfl

/-- From i on the bytes are runes, to the end. -/
def okF (b : Nat → Nat) (len : Nat) : Nat → Nat → Bool
  | 0, i => decide (len ≤ i)
  | f + 1, i => if len ≤ i then true else if seq b i = 0 then false else if seq b i ≤ len - i then okF b len f (i + seq b i) else false

theorem okF_end (b : Nat → Nat) (len f i : Nat) (h : len ≤ i) : okF b len f i = true := by
  cases f with
  | zero => exact decide_eq_true h
  | succ f => rw [okF, if_pos h]

theorem okF_step (b : Nat → Nat) (len f i n : Nat) (h : i < len) (hn : seq b i = n) (h0 : n ≠ 0) (hl : n ≤ len - i) : okF b len (f + 1) i = okF b len f (i + n) := by
  rw [okF, if_neg (by omega), if_neg (by omega), if_pos (by omega), hn]

theorem okF_bad (b : Nat → Nat) (len f i : Nat) (h : i < len) (hn : seq b i = 0 ∨ len - i < seq b i) : okF b len (f + 1) i = false := by
  rw [okF, if_neg (by omega)]
  rcases hn with hn | hn
  · rw [if_pos hn]
  · by_cases h0 : seq b i = 0
    · rw [if_pos h0]
    · rw [if_neg h0, if_neg (by omega)]

theorem okF_inv (b : Nat → Nat) (len f i : Nat) (h : i < len) (hf : len - i ≤ f) (hok : okF b len f i = true) : seq b i ≠ 0 ∧ seq b i ≤ len - i ∧ okF b len (f - 1) (i + seq b i) = true := by
  obtain ⟨g, rfl⟩ : ∃ g, f = g + 1 := ⟨f - 1, by omega⟩
  rw [okF, if_neg (by omega)] at hok
  by_cases h0 : seq b i = 0
  · rw [if_pos h0] at hok; cases hok
  · rw [if_neg h0] at hok
    by_cases h1 : seq b i ≤ len - i
    · rw [if_pos h1] at hok
      exact ⟨h0, h1, hok⟩
    · rw [if_neg h1] at hok; cases hok

theorem cut_ok (b b' : Nat → Nat) (len cut mx : Nat) (hb : ∀ j, b j < 256) (hb' : ∀ j, j < cut → b' j = b j) (h1 : cut ≤ mx) (h2 : mx < len) (h3 : cut = 0 ∨ isC (b cut) = false) (h4 : ∀ j, cut < j → j ≤ mx → isC (b j) = true) :
    ∀ f i g, len - i ≤ f → i ≤ cut → cut - i ≤ g → okF b len f i = true → okF b' cut g i = true ∧ mx ≤ cut + 3 := by
  intro f
  induction f with
  | zero => intro i g hf hi hg _; omega
  | succ f ih =>
    intro i g hf hi hg hok
    obtain ⟨q0, q1, q2⟩ := okF_inv b len (f + 1) i (by omega) hf hok
    rw [Nat.add_sub_cancel] at q2
    have q4 := seq_le b i
    by_cases hic : i = cut
    · subst hic
      refine ⟨okF_end _ _ _ _ (Nat.le_refl _), ?_⟩
      by_cases hm : mx < i + seq b i
      · omega
      · exfalso
        have hlt : i + seq b i < len := by omega
        have hl := okF_inv b len f (i + seq b i) hlt (by omega) q2
        have hc := seq_lead b (i + seq b i) (hb _) hl.1
        rw [h4 (i + seq b i) (by omega) (by omega)] at hc
        cases hc
    · have hle : i + seq b i ≤ cut := by
        by_cases h : i + seq b i ≤ cut
        · exact h
        · exfalso
          have hc := seq_conts b i (cut - i) (by omega) (by omega)
          rw [show i + (cut - i) = cut from by omega] at hc
          rcases h3 with h3 | h3
          · omega
          · rw [hc] at h3; cases h3
      obtain ⟨g', rfl⟩ : ∃ g', g = g' + 1 := ⟨g - 1, by omega⟩
      have hs := seq_congr b b' i cut hle q0 hb'
      have := ih (i + seq b i) g' (by omega) hle (by omega) q2
      rw [okF_step b' cut g' i (seq b i) (by omega) hs q0 (by omega)]
      exact this

/-- What zzValidUTF8 answers. -/
def okS (s : ByteArray) : Bool := okF (byteAt s) s.size s.size 0

theorem okS_cut (s : ByteArray) (cut mx : Nat) (h1 : cut ≤ mx) (h2 : mx < s.size) (h3 : cut = 0 ∨ isC (byteAt s cut) = false) (h4 : ∀ j, cut < j → j ≤ mx → isC (byteAt s j) = true) (hok : okS s = true) :
    okS (s.extract 0 cut) = true ∧ mx ≤ cut + 3 := by
  have hsz : (s.extract 0 cut).size = cut := by rw [ByteArray.size_extract]; omega
  unfold okS
  rw [hsz]
  exact cut_ok (byteAt s) (byteAt (s.extract 0 cut)) s.size cut mx (byteAt_lt s) (fun j hj => byteAt_extract s cut j (by omega) hj) h1 h2 h3 h4 s.size 0 cut (by omega) (by omega) (by omega) hok

end Go.Proofs.Qxb6002359a
