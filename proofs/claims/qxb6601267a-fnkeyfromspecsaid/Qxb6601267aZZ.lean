/-
  The walks of seat b6601267a, part 4: ZZKeyFrom.
-/
import Derived.Test.Qxb6601267aKey
namespace Go.Proofs.Qxb6601267a
open Go.RowKit

theorem Try.info50 : (Try.prog.info? 50).map (fun i => (i.zero, i.size, i.bytes)) = some (some (.agg #[.int .u64 0, .int .u32 0, .bool false]), 3, 16) := by kernel_rfl

theorem make50 (n : Nat) (hn : n ≤ 1048576) (w : World) :
    (Instr.makeSlice 48 (.int .i64 (n : Int)) (.int .i64 (n : Int))).run Try.prog w = .ok (.slice (some ⟨w.heap.size, 0, none⟩) n n) (w.alloc (.cells (madeCells #[.int .u64 0, .int .u32 0, .bool false] (n * 3)) 50)) := by
  obtain ⟨i, hi, hzz⟩ := Option.map_eq_some_iff.1 Try.info50
  simp only [Prod.mk.injEq] at hzz
  obtain ⟨hz, hs, hb⟩ := hzz
  have hr := run_make (P := Try.prog) w 48 50 i _ Try.underlying48 hi hz .i64 .i64 n n (by omega) (Int.le_refl _) (by rw [hb]; omega) (by omega)
  simp only [Int.toNat_natCast, hs] at hr
  exact hr

theorem made50 (w : World) (n : Nat) : (w.alloc (.cells (madeCells #[.int .u64 0, .int .u32 0, .bool false] (n * 3)) 50)).rowIs w.heap.size 50 (n * 3) (ent (fun _ => 0) (fun _ => 0) (fun _ => false)) := by
  have h := World.rowIs_alloc w (madeCells #[.int .u64 0, .int .u32 0, .bool false] (n * 3)) 50 (ent (fun _ => 0) (fun _ => 0) (fun _ => false)) (fun i hi => by
    rw [size_madeCells] at hi
    unfold ent madeCells
    simp only [Array.getElem?_map]
    rw [Array.getElem?_range, if_pos hi]
    obtain h | h | h : i % 3 = 0 ∨ i % 3 = 1 ∨ i % 3 = 2 := by omega
    · simp [h]
    · simp [h]
    · simp [h])
  rwa [size_madeCells] at h

/-- What is known of a slice's element: where it lies, and that it lies there still. -/
theorem Sl.at {w wr : World} {a : Option Addr} {n k : Nat} {f : Nat → Value} (h : Sl w a n f) (hb : Below w.heap.size w wr) (hk : k < n) : ∃ b o, a = some ⟨b, o, none⟩ ∧ wr.cell? ⟨b, o + k, none⟩ = some (f k) := by
  obtain ⟨b, o, ha, hc⟩ := h k hk
  exact ⟨b, o, ha, cell_later hb hc⟩

def upB (L : Nat → Bool) (k i : Nat) : Bool := if i < k then L i else false
def upN (A : Nat → Nat) (k i : Nat) : Nat := if i < k then A i else 0

theorem fill_step {w : World} {g m k : Nat} {K : Nat → Int} {A : Nat → Nat} {L : Nat → Bool} (h : w.rowIs g 50 (m * 3) (ent (upTo K (fun _ => 0) k) (upN A k) (upB L k))) :
    (((w.setCell ⟨g, k * 3, none⟩ (.int .u64 (K k))).setCell ⟨g, k * 3 + 1, none⟩ (.int .u32 ((A k : Nat) : Int))).setCell ⟨g, k * 3 + 2, none⟩ (.bool (L k))).rowIs g 50 (m * 3) (ent (upTo K (fun _ => 0) (k + 1)) (upN A (k + 1)) (upB L (k + 1))) := by
  refine (((h.set (k * 3) _).set (k * 3 + 1) _).set (k * 3 + 2) _).congr fun j _ => ?_
  by_cases e2 : j = k * 3 + 2
  · subst e2; rw [if_pos rfl, ent2]; simp [upB]
  rw [if_neg e2]
  by_cases e1 : j = k * 3 + 1
  · subst e1; rw [if_pos rfl, ent1]; simp [upN]
  rw [if_neg e1]
  by_cases e0 : j = k * 3
  · subst e0; rw [if_pos rfl, ent0]; simp [upTo]
  rw [if_neg e0]
  unfold ent upTo upN upB
  by_cases h1 : j / 3 < k
  · simp [h1, show j / 3 < k + 1 from by omega]
  · simp [h1, show ¬ j / 3 < k + 1 from by omega]

theorem one_step {w : World} {g t m k : Nat} {f : Nat → Value} {z : Value} (h : w.rowIs g t m (fun i => if i < k then f i else z)) :
    (w.setCell ⟨g, k, none⟩ (f k)).rowIs g t m (fun i => if i < k + 1 then f i else z) := by
  refine (h.set k _).congr fun j _ => ?_
  by_cases e : j = k
  · subst e; simp
  · by_cases h1 : j < k
    · simp [e, h1, show j < k + 1 from by omega]
    · simp [e, h1, show ¬ j < k + 1 from by omega]

set_option maxRecDepth 100000 in
set_option maxHeartbeats 2000000 in
theorem zzKeyFrom_any (s : ByteArray) (ae aa ak al : Option Addr) (n ce m ca ck cl : Nat) (E : Nat → Nat) (K : Nat → Int) (A : Nat → Nat) (L : Nat → Bool) (d : Nat) (w : World)
    (hm : m ≤ 16384) (hn : n ≤ 1048576) (hsz : s.size ≤ 1048576) (hd : d ≤ 1048576) (hE : Sl w ae n (fun i => Value.int .u32 ((E i : Nat) : Int)))
    (hAs : Sl w aa m (fun i => Value.int .u32 ((A i : Nat) : Int))) (hKs : Sl w ak m (fun i => Value.int .u64 (K i))) (hLs : Sl w al m (fun i => Value.bool (L i)))
    (hA : ∀ i, i < m → A i < n ∧ startOf E (A i) + d ≤ E (A i) ∧ E (A i) ≤ s.size) :
    Calls Try.prog 19 #[.string s, .slice ae n ce, .slice aa m ca, .slice ak m ck, .slice al m cl, .int .i64 d] w fun e w' => ∃ g1 g2 g3, e = .returned (.tuple #[.slice (some ⟨g1, 0, none⟩) m m, .slice (some ⟨g2, 0, none⟩) m m, .slice (some ⟨g3, 0, none⟩) m m]) ∧
      w'.rowIs g1 34 m (fun i => .int .u64 ((keyN (idOf s E A i) d : Nat) : Int)) ∧ w'.rowIs g2 33 m (fun i => .int .u32 ((A i : Nat) : Int)) ∧ w'.rowIs g3 4 m (fun i => .bool (L i)) ∧ Below w.heap.size w w' := by
  have hmk := make50 m (by omega)
  have HE : Hid (Sl w ae n (fun i => Value.int .u32 ((E i : Nat) : Int))) := hE
  have HAs : Hid (Sl w aa m (fun i => Value.int .u32 ((A i : Nat) : Int))) := hAs
  have HKs : Hid (Sl w ak m (fun i => Value.int .u64 (K i))) := hKs
  have HLs : Hid (Sl w al m (fun i => Value.bool (L i))) := hLs
  have HA : Hid (∀ i, i < m → A i < n ∧ startOf E (A i) + d ≤ E (A i) ∧ E (A i) ≤ s.size) := hA
  clear hE hAs hKs hLs hA
  go_enter Try.func19, Try.ntmps19
  go_wp2
  clear hmk
  go_loopw [31] (fun i wr => ∃ k : Nat, k ≤ m ∧ i = .int .i64 k ∧ wr.rowIs (w.heap.size + 1) 50 (m * 3) (ent (upTo K (fun _ => 0) k) (upN A k) (upB L k)) ∧
      Below (w.heap.size + 1) (w.alloc (.cells #[.string s, .slice ae n ce, .slice none 0 0] 47)) wr) (fun i _ => m - (intOf i).toNat)
  case atStart =>
    have hr := made50 (w.alloc (.cells #[.string s, .slice ae n ce, .slice none 0 0] 47)) m
    have hsz1 : (w.alloc (.cells #[.string s, .slice ae n ce, .slice none 0 0] 47)).heap.size = w.heap.size + 1 := by simp
    rw [hsz1] at hr
    exact ⟨0, Nat.zero_le _, rfl, hr.congr (fun i _ => by simp [ent, upTo, upN, upB]), (Below.refl _ _).alloc (by simp) _⟩
  case round =>
    obtain ⟨k, hk, rfl, hrow, hbel⟩ := hrel
    have hbw : Below w.heap.size w wr := ((Below.refl _ _).alloc (Nat.le_refl _) _).trans (hbel.mono (by omega))
    by_cases hlt : k < m
    · obtain ⟨ba, oa, rfl, ca0⟩ := HAs.out.at hbw hlt
      obtain ⟨bk, ok, rfl, ck0⟩ := HKs.out.at hbw hlt
      obtain ⟨bl, ol, rfl, cl0⟩ := HLs.out.at hbw hlt
      have e0 : ∃ u, wr.cell? ⟨w.heap.size + 1, k * 3, none⟩ = some (.int .u64 u) := ⟨_, by rw [← ent0]; exact hrow.cell (by omega)⟩
      have e1 : ∃ u, wr.cell? ⟨w.heap.size + 1, k * 3 + 1, none⟩ = some (.int .u32 u) := ⟨_, by rw [← ent1]; exact hrow.cell (by omega)⟩
      have e2 : ∃ u, wr.cell? ⟨w.heap.size + 1, k * 3 + 2, none⟩ = some (.bool u) := ⟨_, by rw [← ent2]; exact hrow.cell (by omega)⟩
      obtain ⟨x0, e0⟩ := e0
      obtain ⟨x1, e1⟩ := e1
      obtain ⟨x2, e2⟩ := e2
      have f0 := hrow.frozen (k * 3)
      have f1 := hrow.frozen (k * 3 + 1)
      have f2 := hrow.frozen (k * 3 + 2)
      have hl : (k : Int) < (m : Int) := by omega
      have HR : Hid (wr.rowIs (w.heap.size + 1) 50 (m * 3) (ent (upTo K (fun _ => 0) k) (upN A k) (upB L k))) := hrow
      have HB : Hid (Below (w.heap.size + 1) (w.alloc (.cells #[.string s, .slice ae n ce, .slice none 0 0] 47)) wr) := hbel
      clear hbw hrow hbel
      go_wp2
      refine still_tail_drew 16 (by kernel_rfl) (by kernel_rfl) ?_
      simp only [List.take_succ_cons, List.take_zero, List.drop_succ_cons, List.drop_zero]
      repeat still_step
      refine wpStill_nil ?_
      go_wp2
      go_roundw
      case rel =>
        exact ⟨k + 1, by omega, by go_num, fill_step HR.out, (((HB.out.setCell (Nat.le_refl _) _).setCell (Nat.le_refl _) _).setCell (Nat.le_refl _) _).drew⟩
      case measure => simp [intOf]; omega
    · obtain rfl : k = m := by omega
      have hrow2 : wr.rowIs (w.heap.size + 1) 50 (k * 3) (ent K A L) := hrow.congr (fun j hj => by simp [ent, upTo, upN, upB, show j / 3 < k from by omega])
      have hp0 : wr.cell? ⟨w.heap.size, 0, none⟩ = some (.string s) := (hbel.cell (p := ⟨w.heap.size, 0, none⟩) (by simp)).trans (by simp [World.cell?_alloc_mark w #[.string s, .slice ae n ce, .slice none 0 0] 47 (0, 0) 0])
      have hp1 : wr.cell? ⟨w.heap.size, 1, none⟩ = some (.slice ae n ce) := (hbel.cell (p := ⟨w.heap.size, 1, none⟩) (by simp)).trans (by simp [World.cell?_alloc_mark w #[.string s, .slice ae n ce, .slice none 0 0] 47 (0, 0) 1])
      have HK := keyFrom_any w.heap.size (w.heap.size + 1) s ae n ce E k K A L d wr hm hn hsz hd (HE.out.below hbw) hp0 hp1 (by omega)
        (fun i b o hi hb => by obtain ⟨b', o', h1, h2⟩ := HE.out i hi; rw [hb] at h1; simp at h1; have := World.block_lt_of_cell? _ _ h2; simp at this; omega) HA.out hrow2
      have HBW : Hid (Below w.heap.size w wr) := hbw
      clear hp0 hp1 hrow2 hrow hbel hbw HE HA HAs HKs HLs
      go_wp2_with fail
      refine HK.mono ?_
      clear HK
      rintro e w1 ⟨rfl, hr1, hb1⟩
      have hgl : w.heap.size + 1 < w1.heap.size := hr1.lt
      have HR1 : Hid (w1.rowIs (w.heap.size + 1) 50 (k * 3) (ent (fun i => ((keyN (idOf s E A i) d : Nat) : Int)) A L)) := hr1
      have HB1 : Hid (Below w.heap.size w w1) := HBW.out.trans (hb1.mono (by omega))
      have hm1 := run_make_row' (P := Try.prog) 30 34 (.int .u64 0) 8 Try.underlying30 Try.info34 rfl .i64 .i64 k (by omega) (by omega)
      have hm2 := run_make_row' (P := Try.prog) 29 33 (.int .u32 0) 4 Try.underlying29 Try.info33 rfl .i64 .i64 k (by omega) (by omega)
      have hm3 := run_make_row' (P := Try.prog) 31 4 (.bool false) 1 Try.underlying31 Try.info4 rfl .i64 .i64 k (by omega) (by omega)
      clear hr1 hb1 HBW
      go_wp2
      clear hm1 hm2 hm3
      go_loopw [66] (fun i wq => ∃ j : Nat, j ≤ k ∧ i = .int .i64 j ∧ wq.rowIs w1.heap.size 34 k (fun i => if i < j then .int .u64 ((keyN (idOf s E A i) d : Nat) : Int) else .int .u64 0) ∧
          wq.rowIs (w1.heap.size + 1) 33 k (fun i => if i < j then .int .u32 ((A i : Nat) : Int) else .int .u32 0) ∧ wq.rowIs (w1.heap.size + 1 + 1) 4 k (fun i => if i < j then .bool (L i) else .bool false) ∧ Below w1.heap.size w1 wq) (fun i _ => k - (intOf i).toNat)
      case atStart =>
        have r1 := World.rowIs_made w1 (.int .u64 0) k 34
        have r2 := World.rowIs_made (w1.alloc (.cells (madeCells #[.int .u64 0] k) 34)) (.int .u32 0) k 33
        have r3 := World.rowIs_made ((w1.alloc (.cells (madeCells #[.int .u64 0] k) 34)).alloc (.cells (madeCells #[.int .u32 0] k) 33)) (.bool false) k 4
        simp only [Go.Deep.nblk_alloc] at r2 r3
        exact ⟨0, Nat.zero_le _, rfl, ((r1.alloc _).alloc _).congr (fun i _ => by simp), (r2.alloc _).congr (fun i _ => by simp), r3.congr (fun i _ => by simp), (((Below.refl _ _).alloc (Nat.le_refl _) _).alloc (by simp) _).alloc (by simp; omega) _⟩
      case round =>
        obtain ⟨j, hj, rfl, q1, q2, q3, hbq⟩ := hrel
        by_cases hjl : j < k
        · have hr1 := rowIs_below HR1.out hbq
          have c0 : wr.cell? ⟨w.heap.size + 1, j * 3, none⟩ = some (.int .u64 ((keyN (idOf s E A j) d : Nat) : Int)) := by rw [← ent0 (fun i => ((keyN (idOf s E A i) d : Nat) : Int)) A L]; exact hr1.cell (by omega)
          have c1 : wr.cell? ⟨w.heap.size + 1, j * 3 + 1, none⟩ = some (.int .u32 ((A j : Nat) : Int)) := by rw [← ent1 (fun i => ((keyN (idOf s E A i) d : Nat) : Int)) A L]; exact hr1.cell (by omega)
          have c2 : wr.cell? ⟨w.heap.size + 1, j * 3 + 2, none⟩ = some (.bool (L j)) := by rw [← ent2 (fun i => ((keyN (idOf s E A i) d : Nat) : Int)) A L]; exact hr1.cell (by omega)
          have d0 : wr.cell? ⟨w1.heap.size, j, none⟩ = some (.int .u64 0) := by simpa using q1.cell hjl
          have d1 : wr.cell? ⟨w1.heap.size + 1, j, none⟩ = some (.int .u32 0) := by simpa using q2.cell hjl
          have d2 : wr.cell? ⟨w1.heap.size + 1 + 1, j, none⟩ = some (.bool false) := by simpa using q3.cell hjl
          have f0 := q1.frozen j
          have f1 := q2.frozen j
          have f2 := q3.frozen j
          have HQ : Hid (wr.rowIs w1.heap.size 34 k (fun i => if i < j then .int .u64 ((keyN (idOf s E A i) d : Nat) : Int) else .int .u64 0) ∧
              wr.rowIs (w1.heap.size + 1) 33 k (fun i => if i < j then .int .u32 ((A i : Nat) : Int) else .int .u32 0) ∧ wr.rowIs (w1.heap.size + 1 + 1) 4 k (fun i => if i < j then .bool (L i) else .bool false) ∧ Below w1.heap.size w1 wr) := ⟨q1, q2, q3, hbq⟩
          clear hr1 q1 q2 q3 hbq
          go_wp2
          go_roundw
          case rel =>
            obtain ⟨q1, q2, q3, hbq⟩ := HQ.out
            refine ⟨j + 1, by omega, by go_num, ?_, ?_, ?_, ?_⟩
            · exact ((one_step (f := fun i => .int .u64 ((keyN (idOf s E A i) d : Nat) : Int)) q1).setOther (by simp) _).setOther (by simp; omega) _
            · exact (one_step (f := fun i => .int .u32 ((A i : Nat) : Int)) (q2.setOther (by simp) _)).setOther (by simp) _
            · exact one_step (f := fun i => .bool (L i)) ((q3.setOther (by simp; omega) _).setOther (by simp) _)
            · exact ((hbq.setCell (Nat.le_refl _) _).setCell (by simp) _).setCell (by simp; omega) _
          case measure => simp [intOf]; omega
        · obtain rfl : j = k := by omega
          have HQ : Hid (wr.rowIs w1.heap.size 34 j (fun i => if i < j then .int .u64 ((keyN (idOf s E A i) d : Nat) : Int) else .int .u64 0) ∧
              wr.rowIs (w1.heap.size + 1) 33 j (fun i => if i < j then .int .u32 ((A i : Nat) : Int) else .int .u32 0) ∧ wr.rowIs (w1.heap.size + 1 + 1) 4 j (fun i => if i < j then .bool (L i) else .bool false) ∧ Below w1.heap.size w1 wr) := ⟨q1, q2, q3, hbq⟩
          clear q1 q2 q3 hbq
          go_wp2
          go_ret3
          obtain ⟨q1, q2, q3, hbq⟩ := HQ.out
          exact ⟨_, _, _, rfl, q1.congr (fun i hi => by simp [hi]), q2.congr (fun i hi => by simp [hi]), q3.congr (fun i hi => by simp [hi]), HB1.out.trans (hbq.mono (by omega))⟩

end Go.Proofs.Qxb6601267a
