/-
  Seat b6601267a: plain arithmetic: what '|' and '<<' make of bytes that do not overlap; the key of an ID.
-/
import Derived.WalkKit
namespace Go.Proofs.Qxb6601267a

/-- The byte at place i, 0 past the end. -/
def byteAt (id : ByteArray) (i : Nat) : Nat := if h : i < id.size then id[i].toNat else 0

theorem byteAt_lt (id : ByteArray) (i : Nat) : byteAt id i < 256 := by
  unfold byteAt
  split
  · exact UInt8.toNat_lt _
  · omega
theorem byteAt_in (id : ByteArray) (i : Nat) (h : i < id.size) : byteAt id i = id[i].toNat := by
  unfold byteAt; rw [dif_pos h]
theorem byteAt_out (id : ByteArray) (i : Nat) (h : ¬ i < id.size) : byteAt id i = 0 := by
  unfold byteAt; rw [dif_neg h]

/-- The key of an ID's bytes from d on. -/
def keyN (id : ByteArray) (d : Nat) : Nat :=
  byteAt id d * 72057594037927936 + byteAt id (d + 1) * 281474976710656 + byteAt id (d + 2) * 1099511627776 + byteAt id (d + 3) * 4294967296 +
    byteAt id (d + 4) * 16777216 + byteAt id (d + 5) * 65536 + byteAt id (d + 6) * 256 + (if id.size - d ≤ 7 then id.size - d else 8)

theorem keyN_lt (id : ByteArray) (d : Nat) : keyN id d < 18446744073709551616 := by
  unfold keyN
  have := byteAt_lt id d
  have := byteAt_lt id (d + 1)
  have := byteAt_lt id (d + 2)
  have := byteAt_lt id (d + 3)
  have := byteAt_lt id (d + 4)
  have := byteAt_lt id (d + 5)
  have := byteAt_lt id (d + 6)
  split <;> omega

theorem or_step (H c low p : Nat) (s : Nat) (hp : p = 2 ^ s) (hc : c < 256) (hl : low < p) : (H * (p * 256) + low) ||| (c * p) = H * (p * 256) + low + c * p := by
  have e256 : p * 256 = 2 ^ (s + 8) := by rw [hp, Nat.pow_add]
  have h1 : H * (p * 256) + low = H * (p * 256) ||| low := by
    rw [e256, Nat.mul_comm]
    exact Nat.two_pow_add_eq_or_of_lt (by rw [← e256]; omega) H
  have h2 : low ||| c * p = c * p + low := by
    rw [Nat.or_comm, hp, Nat.mul_comm c]
    exact (Nat.two_pow_add_eq_or_of_lt (by omega) c).symm
  have hlt : c * p + low < p * 256 := by
    have : (c + 1) * p ≤ 256 * p := Nat.mul_le_mul_right p (by omega)
    rw [Nat.add_mul] at this
    omega
  rw [h1, Nat.or_assoc, h2, ← h1, Nat.add_assoc, Nat.add_comm low, e256, Nat.mul_comm H]
  exact (Nat.two_pow_add_eq_or_of_lt (by omega) H).symm

theorem wrapN (n : Nat) (h : n < 18446744073709551616) : IntKind.u64.wrap (n : Int) = (n : Int) := by
  rw [IntKind.wrap_u64]; omega

/-- '|' adds a byte that stands apart from what is there. -/
theorem or_add (X c p s H low : Nat) (hp : p = 2 ^ s) (hX : X = H * (p * 256) + low) (hc : c < 256) (hl : low < p) (hlt : X + c * p < 18446744073709551616) :
    bits BinOp.or IntKind.u64 (X : Int) ((c * p : Nat) : Int) = ((X + c * p : Nat) : Int) := by
  rw [bits_or_u64_nat _ _ (by omega) (by omega), hX, or_step H c low p s hp hc hl]

theorem wrapMul (b p : Nat) (hb : b < 256) (hp : p ≤ 72057594037927936) : IntKind.u64.wrap (IntKind.u64.wrap (b : Int) * (p : Int)) = ((b * p : Nat) : Int) := by
  have : b * p ≤ 255 * 72057594037927936 := Nat.mul_le_mul (by omega) hp
  rw [wrapN b (by omega), ← Int.natCast_mul, wrapN (b * p) (by omega)]

/-- Seven bytes and the mark of more. -/
theorem seven (b0 b1 b2 b3 b4 b5 b6 : Nat) (h0 : b0 < 256) (h1 : b1 < 256) (h2 : b2 < 256) (h3 : b3 < 256) (h4 : b4 < 256) (h5 : b5 < 256) (h6 : b6 < 256) :
    bits BinOp.or IntKind.u64 (bits BinOp.or IntKind.u64 (bits BinOp.or IntKind.u64 (bits BinOp.or IntKind.u64 (bits BinOp.or IntKind.u64 (bits BinOp.or IntKind.u64 (bits BinOp.or IntKind.u64
      (IntKind.u64.wrap (IntKind.u64.wrap (b0 : Int) * 72057594037927936)) (IntKind.u64.wrap (IntKind.u64.wrap (b1 : Int) * 281474976710656)))
      (IntKind.u64.wrap (IntKind.u64.wrap (b2 : Int) * 1099511627776))) (IntKind.u64.wrap (IntKind.u64.wrap (b3 : Int) * 4294967296))) (IntKind.u64.wrap (IntKind.u64.wrap (b4 : Int) * 16777216)))
      (IntKind.u64.wrap (IntKind.u64.wrap (b5 : Int) * 65536))) (IntKind.u64.wrap (IntKind.u64.wrap (b6 : Int) * 256))) 8
    = ((b0 * 72057594037927936 + b1 * 281474976710656 + b2 * 1099511627776 + b3 * 4294967296 + b4 * 16777216 + b5 * 65536 + b6 * 256 + 8 : Nat) : Int) := by
  have e0 := wrapMul b0 72057594037927936 h0 (by omega)
  have e1 := wrapMul b1 281474976710656 h1 (by omega)
  have e2 := wrapMul b2 1099511627776 h2 (by omega)
  have e3 := wrapMul b3 4294967296 h3 (by omega)
  have e4 := wrapMul b4 16777216 h4 (by omega)
  have e5 := wrapMul b5 65536 h5 (by omega)
  have e6 := wrapMul b6 256 h6 (by omega)
  simp only [Int.cast_ofNat_Int] at e0 e1 e2 e3 e4 e5 e6
  have e8 : (8 : Int) = ((8 * 1 : Nat) : Int) := rfl
  rw [e0, e1, e2, e3, e4, e5, e6, e8]
  rw [or_add (b0 * 72057594037927936) b1 281474976710656 48 b0 0 (by decide) (by omega) h1 (by omega) (by omega)]
  rw [or_add (b0 * 72057594037927936 + b1 * 281474976710656) b2 1099511627776 40 (b0 * 256 + b1) 0 (by decide) (by omega) h2 (by omega) (by omega)]
  rw [or_add _ b3 4294967296 32 ((b0 * 256 + b1) * 256 + b2) 0 (by decide) (by omega) h3 (by omega) (by omega)]
  rw [or_add _ b4 16777216 24 (((b0 * 256 + b1) * 256 + b2) * 256 + b3) 0 (by decide) (by omega) h4 (by omega) (by omega)]
  rw [or_add _ b5 65536 16 ((((b0 * 256 + b1) * 256 + b2) * 256 + b3) * 256 + b4) 0 (by decide) (by omega) h5 (by omega) (by omega)]
  rw [or_add _ b6 256 8 (((((b0 * 256 + b1) * 256 + b2) * 256 + b3) * 256 + b4) * 256 + b5) 0 (by decide) (by omega) h6 (by omega) (by omega)]
  rw [or_add _ 8 1 0 ((((((b0 * 256 + b1) * 256 + b2) * 256 + b3) * 256 + b4) * 256 + b5) * 256 + b6) 0 (by decide) (by omega) (by omega) (by omega) (by omega)]

theorem keyN_low (id : ByteArray) (d : Nat) : keyN id d % 256 = if id.size - d ≤ 7 then id.size - d else 8 := by
  unfold keyN
  split <;> omega

theorem keyN_byte (id : ByteArray) (d b : Nat) (hb : b ≤ 6) : keyN id d / 2 ^ (56 - 8 * b) % 256 = byteAt id (d + b) := by
  have g0 := byteAt_lt id d
  have g1 := byteAt_lt id (d + 1)
  have g2 := byteAt_lt id (d + 2)
  have g3 := byteAt_lt id (d + 3)
  have g4 := byteAt_lt id (d + 4)
  have g5 := byteAt_lt id (d + 5)
  have g6 := byteAt_lt id (d + 6)
  have hl : (if id.size - d ≤ 7 then id.size - d else 8) ≤ 8 := by split <;> omega
  unfold keyN
  generalize (if id.size - d ≤ 7 then id.size - d else 8) = low at *
  have e0 : 2 ^ (56 - 8 * 0) = 72057594037927936 := by decide
  have e1 : 2 ^ (56 - 8 * 1) = 281474976710656 := by decide
  have e2 : 2 ^ (56 - 8 * 2) = 1099511627776 := by decide
  have e3 : 2 ^ (56 - 8 * 3) = 4294967296 := by decide
  have e4 : 2 ^ (56 - 8 * 4) = 16777216 := by decide
  have e5 : 2 ^ (56 - 8 * 5) = 65536 := by decide
  have e6 : 2 ^ (56 - 8 * 6) = 256 := by decide
  obtain rfl | rfl | rfl | rfl | rfl | rfl | rfl : b = 0 ∨ b = 1 ∨ b = 2 ∨ b = 3 ∨ b = 4 ∨ b = 5 ∨ b = 6 := by omega
  · rw [e0, show byteAt id (d + 0) = byteAt id d from rfl]; omega
  · rw [e1]; omega
  · rw [e2]; omega
  · rw [e3]; omega
  · rw [e4]; omega
  · rw [e5]; omega
  · rw [e6]; omega

/-- What the loop has gathered after q bytes. -/
def part (f : Nat → Nat) (r : Nat) : Nat → Nat
  | 0 => r
  | q + 1 => part f r q + f q * 2 ^ (56 - 8 * q)

theorem part_form (f : Nat → Nat) (hf : ∀ i, f i < 256) (r : Nat) (hr : r < 8) : ∀ q, q ≤ 6 → ∃ H, part f r q = H * (2 ^ (56 - 8 * q) * 256) + r ∧ part f r q < 18446744073709551616 - 2 ^ (56 - 8 * q) * 256 + 8 := by
  intro q hq
  have g0 := hf 0
  have g1 := hf 1
  have g2 := hf 2
  have g3 := hf 3
  have g4 := hf 4
  have g5 := hf 5
  obtain rfl | rfl | rfl | rfl | rfl | rfl | rfl : q = 0 ∨ q = 1 ∨ q = 2 ∨ q = 3 ∨ q = 4 ∨ q = 5 ∨ q = 6 := by omega
  · exact ⟨0, by simp [part], by simp [part]; omega⟩
  · exact ⟨f 0, by simp [part]; omega, by simp [part]; omega⟩
  · exact ⟨f 0 * 256 + f 1, by simp [part]; omega, by simp [part]; omega⟩
  · exact ⟨(f 0 * 256 + f 1) * 256 + f 2, by simp [part]; omega, by simp [part]; omega⟩
  · exact ⟨((f 0 * 256 + f 1) * 256 + f 2) * 256 + f 3, by simp [part]; omega, by simp [part]; omega⟩
  · exact ⟨(((f 0 * 256 + f 1) * 256 + f 2) * 256 + f 3) * 256 + f 4, by simp [part]; omega, by simp [part]; omega⟩
  · exact ⟨((((f 0 * 256 + f 1) * 256 + f 2) * 256 + f 3) * 256 + f 4) * 256 + f 5, by simp [part]; omega, by simp [part]; omega⟩

theorem pow_le (q : Nat) (hq : q ≤ 6) : 256 ≤ 2 ^ (56 - 8 * q) ∧ 2 ^ (56 - 8 * q) ≤ 72057594037927936 := by
  obtain rfl | rfl | rfl | rfl | rfl | rfl | rfl : q = 0 ∨ q = 1 ∨ q = 2 ∨ q = 3 ∨ q = 4 ∨ q = 5 ∨ q = 6 := by omega
  all_goals decide

theorem part_step (f : Nat → Nat) (hf : ∀ i, f i < 256) (r : Nat) (hr : r < 8) (q : Nat) (hq : q ≤ 6) :
    bits BinOp.or IntKind.u64 ((part f r q : Nat) : Int) ((f q * 2 ^ (56 - 8 * q) : Nat) : Int) = ((part f r (q + 1) : Nat) : Int) := by
  obtain ⟨H, h1, h2⟩ := part_form f hf r hr q hq
  obtain ⟨p1, p2⟩ := pow_le q hq
  have hfq := hf q
  have hm : f q * 2 ^ (56 - 8 * q) ≤ 255 * 2 ^ (56 - 8 * q) := Nat.mul_le_mul_right _ (by omega)
  exact or_add (part f r q) (f q) (2 ^ (56 - 8 * q)) (56 - 8 * q) H r rfl h1 hfq (by omega) (by omega)

theorem part_seven (f : Nat → Nat) (r : Nat) : part f r 7 = f 0 * 72057594037927936 + f 1 * 281474976710656 + f 2 * 1099511627776 + f 3 * 4294967296 + f 4 * 16777216 + f 5 * 65536 + f 6 * 256 + r := by
  have e0 : 2 ^ (56 - 8 * 0) = 72057594037927936 := by decide
  have e1 : 2 ^ (56 - 8 * 1) = 281474976710656 := by decide
  have e2 : 2 ^ (56 - 8 * 2) = 1099511627776 := by decide
  have e3 : 2 ^ (56 - 8 * 3) = 4294967296 := by decide
  have e4 : 2 ^ (56 - 8 * 4) = 16777216 := by decide
  have e5 : 2 ^ (56 - 8 * 5) = 65536 := by decide
  have e6 : 2 ^ (56 - 8 * 6) = 256 := by decide
  show r + f 0 * 2 ^ (56 - 8 * 0) + f 1 * 2 ^ (56 - 8 * 1) + f 2 * 2 ^ (56 - 8 * 2) + f 3 * 2 ^ (56 - 8 * 3) + f 4 * 2 ^ (56 - 8 * 4) + f 5 * 2 ^ (56 - 8 * 5) + f 6 * 2 ^ (56 - 8 * 6) = _
  rw [e0, e1, e2, e3, e4, e5, e6]
  omega

theorem part_zero (f : Nat → Nat) (r a : Nat) : ∀ k, (∀ i, a ≤ i → f i = 0) → part f r (a + k) = part f r a := by
  intro k
  induction k with
  | zero => intro _; rfl
  | succ k ih =>
    intro h
    show part f r (a + k) + f (a + k) * 2 ^ (56 - 8 * (a + k)) = _
    rw [h (a + k) (by omega), ih h, Nat.zero_mul, Nat.add_zero]

theorem part_key (id : ByteArray) (d : Nat) (h : id.size - d ≤ 7) : part (fun i => byteAt id (d + i)) (id.size - d) (id.size - d) = keyN id d := by
  have h7 := part_seven (fun i => byteAt id (d + i)) (id.size - d)
  have hz := part_zero (fun i => byteAt id (d + i)) (id.size - d) (id.size - d) (7 - (id.size - d)) (fun i hi => byteAt_out _ _ (by omega))
  rw [show id.size - d + (7 - (id.size - d)) = 7 from by omega] at hz
  rw [← hz, h7]
  unfold keyN
  rw [if_pos h]
  rfl

end Go.Proofs.Qxb6601267a
