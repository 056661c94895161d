/-
  The walks of seat b6601267a, part 3: keyFrom.
-/
import Derived.Test.Qxb6601267aSmall
import Derived.Test.Qxb6601267aBits
import Derived.StillTailTactics
namespace Go.Proofs.Qxb6601267a
open Go.RowKit

theorem still_tail_drew {P : Program} {id : Nat} {Q : Exit → Act → World → Prop} {a : Act} {w : World} {l : List Oper} (n : Nat) (hm : P.follows .mixedOrders = true) (hB : Region.lexTailB .any l.toArray n = true)
    (h : wpStill P l.toArray w.drew (fun a' => wpList P l.toArray Q (l.drop n) a' w.drew) (l.take n) a) : (Code.region id l.toArray true).wp P Q a w :=
  wp_region_still_tail n hm hB h

/-- The cells of the entries: three to an entry. -/
def ent (K : Nat → Int) (A : Nat → Nat) (L : Nat → Bool) (q : Nat) : Value :=
  if q % 3 = 0 then .int .u64 (K (q / 3)) else if q % 3 = 1 then .int .u32 ((A (q / 3) : Nat) : Int) else .bool (L (q / 3))

theorem ent0 (K A L) (i : Nat) : ent K A L (i * 3) = .int .u64 (K i) := by
  unfold ent
  rw [if_pos (by omega), show i * 3 / 3 = i from by omega]
theorem ent1 (K A L) (i : Nat) : ent K A L (i * 3 + 1) = .int .u32 ((A i : Nat) : Int) := by
  unfold ent
  rw [if_neg (by omega), if_pos (by omega), show (i * 3 + 1) / 3 = i from by omega]
theorem ent2 (K A L) (i : Nat) : ent K A L (i * 3 + 2) = .bool (L i) := by
  unfold ent
  rw [if_neg (by omega), if_neg (by omega), show (i * 3 + 2) / 3 = i from by omega]

/-- The first k entries have their new keys. -/
def upTo (N K : Nat → Int) (k i : Nat) : Int := if i < k then N i else K i

theorem row_step {w : World} {g m k : Nat} {N K : Nat → Int} {A : Nat → Nat} {L : Nat → Bool} (h : w.rowIs g 50 (m * 3) (ent (upTo N K k) A L)) :
    (w.setCell ⟨g, k * 3, none⟩ (.int .u64 (N k))).rowIs g 50 (m * 3) (ent (upTo N K (k + 1)) A L) := by
  refine (h.set (k * 3) _).congr fun j _ => ?_
  by_cases e : j = k * 3
  · subst e
    rw [if_pos rfl, ent0]
    simp [upTo]
  · rw [if_neg e]
    unfold ent
    by_cases h0 : j % 3 = 0
    · rw [if_pos h0, if_pos h0]
      unfold upTo
      by_cases h1 : j / 3 < k
      · rw [if_pos h1, if_pos (by omega)]
      · rw [if_neg h1, if_neg (by omega)]
    · rw [if_neg h0, if_neg h0]

theorem shl_form (c q : Nat) (hc : c < 256) (hq : q ≤ 6) : IntKind.u64.wrap ((c : Int) * 2 ^ (56 - 8 * q)) = ((c * 2 ^ (56 - 8 * q) : Nat) : Int) := by
  obtain ⟨p1, p2⟩ := pow_le q hq
  have hm : c * 2 ^ (56 - 8 * q) ≤ 255 * 72057594037927936 := Nat.mul_le_mul (by omega) p2
  have e : (c : Int) * 2 ^ (56 - 8 * q) = ((c * 2 ^ (56 - 8 * q) : Nat) : Int) := by
    rw [Int.natCast_mul, Int.natCast_pow]; rfl
  rw [e, wrapN _ (by omega)]

/-- The ID of entry i. -/
def idOf (s : ByteArray) (E A : Nat → Nat) (i : Nat) : ByteArray := s.extract (startOf E (A i)) (E (A i))

theorem idOf_size (s : ByteArray) (E A : Nat → Nat) (i : Nat) (h : E (A i) ≤ s.size) : (idOf s E A i).size = E (A i) - startOf E (A i) := by
  unfold idOf
  rw [ByteArray.size_extract]; omega

theorem keyN_many (id : ByteArray) (d : Nat) (h : 7 + d < id.size) (bb : ByteArray) (hbb : bb = id.extract d (d + 8)) (z0 : 0 < bb.size) (z1 : 1 < bb.size) (z2 : 2 < bb.size) (z3 : 3 < bb.size) (z4 : 4 < bb.size) (z5 : 5 < bb.size) (z6 : 6 < bb.size) :
    bits BinOp.or IntKind.u64 (bits BinOp.or IntKind.u64 (bits BinOp.or IntKind.u64 (bits BinOp.or IntKind.u64 (bits BinOp.or IntKind.u64 (bits BinOp.or IntKind.u64 (bits BinOp.or IntKind.u64
      (IntKind.u64.wrap (IntKind.u64.wrap (bb[0].toNat : Int) * 72057594037927936)) (IntKind.u64.wrap (IntKind.u64.wrap (bb[1].toNat : Int) * 281474976710656)))
      (IntKind.u64.wrap (IntKind.u64.wrap (bb[2].toNat : Int) * 1099511627776))) (IntKind.u64.wrap (IntKind.u64.wrap (bb[3].toNat : Int) * 4294967296))) (IntKind.u64.wrap (IntKind.u64.wrap (bb[4].toNat : Int) * 16777216)))
      (IntKind.u64.wrap (IntKind.u64.wrap (bb[5].toNat : Int) * 65536))) (IntKind.u64.wrap (IntKind.u64.wrap (bb[6].toNat : Int) * 256))) 8 = ((keyN id d : Nat) : Int) := by
  have g : ∀ i (hi : i < bb.size), i < 8 → bb[i].toNat = byteAt id (d + i) := by
    intro i hi h8
    subst hbb
    rw [byteAt_in id (d + i) (by omega)]
    simp [ByteArray.getElem_extract]
  rw [g 0 z0 (by omega), g 1 z1 (by omega), g 2 z2 (by omega), g 3 z3 (by omega), g 4 z4 (by omega), g 5 z5 (by omega), g 6 z6 (by omega)]
  rw [seven _ _ _ _ _ _ _ (byteAt_lt _ _) (byteAt_lt _ _) (byteAt_lt _ _) (byteAt_lt _ _) (byteAt_lt _ _) (byteAt_lt _ _) (byteAt_lt _ _)]
  unfold keyN
  rw [if_neg (by omega)]
  simp only [Nat.add_zero]

set_option maxRecDepth 100000 in
set_option maxHeartbeats 2000000 in
theorem keyFrom_any (pb g : Nat) (s : ByteArray) (a : Option Addr) (n c : Nat) (E : Nat → Nat) (m : Nat) (K : Nat → Int) (A : Nat → Nat) (L : Nat → Bool) (d : Nat) (w : World)
    (hm : m ≤ 16384) (hn : n ≤ 1048576) (hsz : s.size ≤ 1048576) (hd : d ≤ 1048576) (hs : Sl w a n (fun i => Value.int .u32 ((E i : Nat) : Int)))
    (hp0 : w.cell? ⟨pb, 0, none⟩ = some (.string s)) (hp1 : w.cell? ⟨pb, 1, none⟩ = some (.slice a n c)) (hpb : pb < g)
    (hab : ∀ i b o, i < n → a = some ⟨b, o, none⟩ → b < g) (hA : ∀ i, i < m → A i < n ∧ startOf E (A i) + d ≤ E (A i) ∧ E (A i) ≤ s.size)
    (hrow : w.rowIs g 50 (m * 3) (ent K A L)) :
    Calls Try.prog 23 #[.pointer (some ⟨pb, 0, none⟩), .slice (some ⟨g, 0, none⟩) m m, .int .i64 d] w fun e w' => e = .returned (.tuple #[]) ∧
      w'.rowIs g 50 (m * 3) (ent (fun i => ((keyN (idOf s E A i) d : Nat) : Int)) A L) ∧ Below g w w' := by
  have HROW : Hid (w.rowIs g 50 (m * 3) (ent K A L)) := hrow
  clear hrow
  go_enter Try.func23, Try.ntmps23
  go_wp2
  go_loopw [15] (fun i wr => ∃ k : Nat, k ≤ m ∧ i = .int .i64 k ∧ wr.rowIs g 50 (m * 3) (ent (upTo (fun i => ((keyN (idOf s E A i) d : Nat) : Int)) K k) A L) ∧ Below g w wr) (fun i _ => m - (intOf i).toNat)
  case atStart => exact ⟨0, Nat.zero_le _, rfl, HROW.out.congr (fun i _ => by simp [ent, upTo]), Below.refl _ _⟩
  case round =>
    obtain ⟨k, hk, rfl, hrow2, hbel⟩ := hrel
    by_cases hlt : k < m
    · have g0 : ∃ u, wr.cell? ⟨g, k * 3, none⟩ = some (.int .u64 u) := ⟨_, by rw [← ent0]; exact hrow2.cell (by omega)⟩
      obtain ⟨u0, g0⟩ := g0
      have g1 : wr.cell? ⟨g, k * 3 + 1, none⟩ = some (.int .u32 ((A k : Nat) : Int)) := by rw [← ent1 (upTo (fun i => ((keyN (idOf s E A i) d : Nat) : Int)) K k) A L]; exact hrow2.cell (by omega)
      have g2 : wr.cell? ⟨g, k * 3 + 2, none⟩ = some (.bool (L k)) := by rw [← ent2 (upTo (fun i => ((keyN (idOf s E A i) d : Nat) : Int)) K k) A L]; exact hrow2.cell (by omega)
      have HR : Hid (wr.rowIs g 50 (m * 3) (ent (upTo (fun i => ((keyN (idOf s E A i) d : Nat) : Int)) K k) A L)) := hrow2
      have HB : Hid (Below g w wr) := hbel
      clear hrow2 hbel HROW
      obtain ⟨hA1, hA2, hA3⟩ := hA k hlt
      have hgl : g < wr.heap.size := HR.out.lt
      have hb0 : ∀ q, q < g → ∀ o v, w.cell? ⟨q, o, none⟩ = some v → (wr.alloc (.cells #[.int .u64 u0, .int .u32 ((A k : Nat) : Int), .bool (L k)] 50)).cell? ⟨q, o, none⟩ = some v := by
        intro q hq o v hv
        exact Lib.cell?_alloc_some _ ((HB.out.cell (p := ⟨q, o, none⟩) hq).trans hv)
      have HAT := at_any pb s a n c (A k) E (wr.alloc (.cells #[.int .u64 u0, .int .u32 ((A k : Nat) : Int), .bool (L k)] 50)) hn hA1
        (fun i hi => by obtain ⟨b, o, e, hc⟩ := hs i hi; exact ⟨b, o, e, hb0 b (hab i b o hi e) _ _ hc⟩) (hb0 pb hpb _ _ hp0) (hb0 pb hpb _ _ hp1) (by omega) hA3
      clear hb0 hp0 hp1 hs hab hA
      go_wp2_with fail
      refine HAT.mono ?_
      clear HAT
      rintro e w1 ⟨rfl, hb1⟩
      have hid := idOf_size s E A k hA3
      have hid1 : d ≤ (idOf s E A k).size := by omega
      have hid2 : (idOf s E A k).size ≤ 1048576 := by omega
      rw [show s.extract (startOf E (A k)) (E (A k)) = idOf s E A k from rfl]
      clear hid hA2 hA3
      have HN : Hid (∀ (W : World) (v : Value), wr.heap.size ≤ W.heap.size → (∀ b, b < wr.heap.size → W.heap[b]? = wr.heap[b]?) → v = .int .u64 ((keyN (idOf s E A k) d : Nat) : Int) →
          (W.setCell ⟨g, k * 3, none⟩ v).rowIs g 50 (m * 3) (ent (upTo (fun i => ((keyN (idOf s E A i) d : Nat) : Int)) K (k + 1)) A L)) := by
        intro W v _ hbl hv
        subst hv
        exact row_step (HR.out.of_block (hbl g hgl))
      have HW1 : Hid (wr.heap.size ≤ w1.heap.size ∧ (∀ b, b < wr.heap.size → w1.heap[b]? = wr.heap[b]?) ∧ Below g w w1) := by
        have h1 : ∀ b, b < wr.heap.size → w1.heap[b]? = wr.heap[b]? := fun b hb => (hb1.block b (by simp; omega)).trans (Below.heap_alloc _ _ _ hb)
        exact ⟨by have := hb1.size; simp at this; omega, h1, (HB.out.alloc (by omega) _).trans (hb1.mono (by simp; omega))⟩
      have c0 : w1.cell? ⟨g, k * 3, none⟩ = some (.int .u64 u0) := cell_later hb1 (Lib.cell?_alloc_some _ g0)
      have f0 : w1.frozen? ⟨g, k * 3, none⟩ = false := by
        rw [hb1.frozen (p := ⟨g, k * 3, none⟩) (by simp; omega)]
        exact (HR.out.alloc _).frozen _
      clear g0 g1 g2 hb1 HR HB
      generalize idOf s E A k = id at *
      by_cases h7 : 7 + d < id.size
      · have hx8 : (id.extract d (d + 8)).size = 8 := by rw [ByteArray.size_extract]; omega
        go_wp2_with fail
        generalize hbb : id.extract d (d + 8) = bb at *
        have HBB : Hid (bb = id.extract d (d + 8)) := hbb.symm
        clear hbb
        have hz0 : 0 < bb.size := by omega
        have hz1 : (1 : Int) < (bb.size : Int) := by omega
        have hz2 : (2 : Int) < (bb.size : Int) := by omega
        have hz3 : (3 : Int) < (bb.size : Int) := by omega
        have hz4 : (4 : Int) < (bb.size : Int) := by omega
        have hz5 : (5 : Int) < (bb.size : Int) := by omega
        have hz6 : (6 : Int) < (bb.size : Int) := by omega
        clear hx8
        refine still_tail_drew 39 (by kernel_rfl) (by kernel_rfl) ?_
        simp only [List.take_succ_cons, List.take_zero, List.drop_succ_cons, List.drop_zero]
        repeat still_step
        refine wpStill_nil ?_
        go_wp2
        go_roundw
        case rel =>
          obtain ⟨s1, s2, s3⟩ := HW1.out
          refine ⟨k + 1, by omega, by go_num, HN.out _ _ s1 s2 ?_, ?_⟩
          · rw [keyN_many id d h7 bb HBB.out hz0 (by omega) (by omega) (by omega) (by omega) (by omega) (by omega)]
          · exact s3.drew.setCell (Nat.le_refl _) _
        case measure => simp [intOf]; omega
      · have hcv := fun w s => run_bytes_of_string (P := Try.prog) w 9 44 5 s Try.underlying9 Try.underlying44 Try.underlying5
        have hcell : ∀ cap, ∀ j, j < id.size - d → ((w1.alloc (Obj.cells (bytesRow (id.extract d id.size) cap) 5 ((bytesRow (id.extract d id.size) cap).size, (bytesRow (id.extract d id.size) cap).size + 1))).drew).cell? ⟨w1.heap.size, j, none⟩ = some (.int .u8 ((byteAt id (d + j) : Nat) : Int)) := by
          intro cap j hj
          have hj2 : j < (id.extract d id.size).data.size := by
            have : (id.extract d id.size).size = id.size - d := by rw [ByteArray.size_extract]; omega
            rw [← this] at hj; exact hj
          have := World.cell?_alloc_mark w1 (bytesRow (id.extract d id.size) cap) 5 ((bytesRow (id.extract d id.size) cap).size, (bytesRow (id.extract d id.size) cap).size + 1) j
          refine Eq.trans this ?_
          rw [bytesRow_at _ _ _ hj2, byteAt_in id (d + j) (by omega)]
          have e : (id.extract d id.size).data[j] = id[d + j]'(by omega) := ByteArray.getElem_extract (b := id) (start := d) (stop := id.size) (i := j) (h := hj2)
          rw [e]
        have HC : Hid (∀ cap, ∀ j, j < id.size - d → ((w1.alloc (Obj.cells (bytesRow (id.extract d id.size) cap) 5 ((bytesRow (id.extract d id.size) cap).size, (bytesRow (id.extract d id.size) cap).size + 1))).drew).cell? ⟨w1.heap.size, j, none⟩ = some (.int .u8 ((byteAt id (d + j) : Nat) : Int))) := hcell
        clear hcell
        go_wp2_with fail
        go_loopw [10, 84] (fun ky i wq => ∃ q : Nat, q ≤ id.size - d ∧ i = .int .i64 q ∧ ky = .int .u64 ((part (fun i => byteAt id (d + i)) (id.size - d) q : Nat) : Int) ∧ Below w1.heap.size w1 wq ∧
            ∀ j, j < id.size - d → wq.cell? ⟨w1.heap.size, j, none⟩ = some (.int .u8 ((byteAt id (d + j) : Nat) : Int))) (fun _ i _ => id.size - d - (intOf i).toNat)
        case atStart => exact ⟨0, Nat.zero_le _, rfl, by simp only [part]; go_num, ((Below.refl _ _).alloc (Nat.le_refl _) _).drew, HC.out _⟩
        case round =>
          clear hcv HC
          obtain ⟨q, hq, rfl, rfl, hbq, hcq⟩ := hrel
          by_cases hql : q < id.size - d
          · have hc1 : wr.cell? ⟨w1.heap.size, q, none⟩ = some (.int .u8 ((byteAt id (d + q) : Nat) : Int)) := hcq q hql
            have hlt256 := byteAt_lt id (d + q)
            have HQ : Hid (∀ j, j < id.size - d → wr.cell? ⟨w1.heap.size, j, none⟩ = some (.int .u8 ((byteAt id (d + j) : Nat) : Int))) := hcq
            clear hcq
            go_wp2_with fail
            go_roundw
            case rel =>
              exact ⟨q + 1, by omega, by go_num, by rw [shl_form _ _ (by omega) (by omega), part_step _ (fun i => byteAt_lt id (d + i)) _ (by omega) q (by omega)], hbq, HQ.out⟩
            case measure => simp [intOf]; omega
          · have hqe : q = id.size - d := by omega
            have HP : Hid (part (fun i => byteAt id (d + i)) (id.size - d) q = keyN id d) := by
              rw [hqe]; exact part_key id d (by omega)
            have c1 : wr.cell? ⟨g, k * 3, none⟩ = some (.int .u64 u0) := cell_later hbq c0
            have hg1 : g < w1.heap.size := World.block_lt_of_cell? _ _ c0
            have f1 : wr.frozen? ⟨g, k * 3, none⟩ = false := (hbq.frozen (p := ⟨g, k * 3, none⟩) hg1).trans f0
            have HBQ : Hid (Below w1.heap.size w1 wr) := hbq
            clear hcq hqe hbq c0 f0
            go_wp2
            go_roundw
            case rel =>
              obtain ⟨s1, s2, s3⟩ := HW1.out
              have hbq := HBQ.out
              refine ⟨k + 1, by omega, by go_num, HN.out _ _ (Nat.le_trans s1 hbq.size) (fun b hb => (hbq.block b (by omega)).trans (s2 b hb)) ?_, ?_⟩
              · rw [HP.out]
              · exact (s3.trans (hbq.mono (by omega))).setCell (Nat.le_refl _) _
            case measure => simp [intOf]; omega
    · have hkm : k = m := by omega
      subst hkm
      have HR : Hid (wr.rowIs g 50 (k * 3) (ent (upTo (fun i => ((keyN (idOf s E A i) d : Nat) : Int)) K k) A L)) := hrow2
      have HB : Hid (Below g w wr) := hbel
      clear hrow2 hbel HROW
      go_wp2
      go_end0
      exact ⟨rfl, HR.out.congr (fun j hj => by simp [ent, upTo, show j / 3 < k from by omega]), HB.out⟩

end Go.Proofs.Qxb6601267a
