import Derived.Test.YbulkcwbuBuild
import Derived.Deep.QuietTactic
import Derived.BigQuiet
import Derived.Lib.Builder
namespace Go.Proofs.Ybulkcwbu
open Go.RowKit Go.Deep

/-- Behind 'h := build(..)', 'orig := make(..)' and k rounds of the copying loop. -/
def CRel (w1 : World) (B n k : Nat) (wr : World) : Prop :=
  Below w1.heap.size w1 wr ∧ wr.heap.size = w1.heap.size + 2 ∧ wr.heap[w1.heap.size]? = some (.cells #[.slice (some ⟨B, 0, none⟩) n n] 25 (0, 0)) ∧
    wr.rowIs (w1.heap.size + 1) 27 n (fun i => if i < k then .pointer (some ⟨B + 1 + i, 0, none⟩) else .pointer none)

theorem CRel.start (w1 : World) (B n : Nat) : CRel w1 B n 0 ((w1.alloc (.cells #[.slice (some ⟨B, 0, none⟩) n n] 25)).alloc (.cells (madeCells #[.pointer none] n) 27)) := by
  refine ⟨((Below.refl _ _).alloc (Nat.le_refl _) _).alloc (by simp) _, by simp, ?_, ?_⟩
  · rw [blk_alloc_lt _ _ _ (by simp)]; exact blk_alloc_new _ _
  · have h := World.rowIs_made (w1.alloc (.cells #[.slice (some ⟨B, 0, none⟩) n n] 25)) (.pointer none) n 27
    rw [show (w1.alloc (.cells #[.slice (some ⟨B, 0, none⟩) n n] 25)).heap.size = w1.heap.size + 1 by simp] at h
    exact h.congr (fun i _ => by simp)

theorem CRel.step {w1 wr : World} {B n k : Nat} (h : CRel w1 B n k wr) : CRel w1 B n (k + 1) (wr.setCell ⟨w1.heap.size + 1, k, none⟩ (.pointer (some ⟨B + 1 + k, 0, none⟩))) := by
  obtain ⟨h1, h2, h3, h4⟩ := h
  refine ⟨h1.setCell (by simp) _, by simp [h2], ?_, (h4.set _ _).congr (fun i _ => ?_)⟩
  · rw [blk_setCell_other _ _ _ _ (by simp)]; exact h3
  · show (if i = k then _ else if i < k then _ else _) = _
    by_cases e : i = k
    · subst e; simp
    · rw [if_neg e]
      by_cases e2 : i < k
      · rw [if_pos e2, if_pos (by omega)]
      · rw [if_neg e2, if_neg (by omega)]

theorem CRel.hcell {w1 wr : World} {B n k : Nat} (h : CRel w1 B n k wr) : wr.cell? ⟨w1.heap.size, 0, none⟩ = some (.slice (some ⟨B, 0, none⟩) n n) ∧ wr.frozen? ⟨w1.heap.size, 0, none⟩ = false := by
  obtain ⟨h1, h2, h3, h4⟩ := h
  exact ⟨by simp [World.cell?, h3], by simp [World.frozen?, h3]⟩

theorem CRel.ocell {w1 wr : World} {B n k i : Nat} (h : CRel w1 B n k wr) (hi : i < k) (hn : i < n) : wr.cell? ⟨w1.heap.size + 1, i, none⟩ = some (.pointer (some ⟨B + 1 + i, 0, none⟩)) := by
  obtain ⟨h1, h2, h3, h4⟩ := h
  rw [h4.cell hn, if_pos hi]

theorem CRel.room {w1 wr : World} {B n k : Nat} (h : CRel w1 B n k wr) (hn : k < n) : wr.cell? ⟨w1.heap.size + 1, k, none⟩ = some (.pointer none) ∧ wr.frozen? ⟨w1.heap.size + 1, k, none⟩ = false := by
  obtain ⟨h1, h2, h3, h4⟩ := h
  exact ⟨by rw [h4.cell hn, if_neg (by omega)], h4.frozen k⟩

theorem BRel.pcell {w w1 : World} {n : Nat} {K : Nat → ByteArray} {A : Nat → Int} (h : BRel w n K A n w1) {i : Nat} (hi : i < n) : w1.cell? ⟨w.heap.size, i, none⟩ = some (.pointer (some ⟨w.heap.size + 1 + i, 0, none⟩)) := by
  obtain ⟨h1, h2, h3, h4⟩ := h
  rw [h3.cell hi, if_pos hi]

theorem Nodes.cells {w : World} {B k : Nat} {K : Nat → ByteArray} {A : Nat → Int} (h : Nodes w B k K A) {i : Nat} (hi : i < k) :
    w.cell? ⟨B + 1 + i, 3, none⟩ = some (.int .i64 i) ∧ w.cell? ⟨B + 1 + i, 6, none⟩ = some (.string (K i)) ∧ w.cell? ⟨B + 1 + i, 20, none⟩ = some (.int .i64 (A i)) := by
  have := h i hi
  refine ⟨?_, ?_, ?_⟩ <;> simp [World.cell?, this, node]

theorem assert27 (a : Addr) (w : World) : (Instr.typeAssert (.iface 27 (.pointer (some a))) 20 27 true).run Yba.prog w = .ok (.tuple #[.pointer (some a), .bool true]) w := by kernel_rfl

theorem Yba.info46 : (Yba.prog.info? 46).isSome = true := by kernel_rfl
theorem neq27 (a : Addr) (w : World) : (binOp .neq 27 (.pointer (some a)) (.pointer (some a))).run Yba.prog w = .ok (.bool false) w := by
  obtain ⟨j, hj⟩ := Option.isSome_iff_exists.1 Yba.info46
  exact Lib.run_neq_ptr_same w a Yba.underlying27 hj

/-- What lies in memory behind Pop. -/
theorem popped {w w1 wr w2 : World} {n kb ko : Nat} {K : Nat → ByteArray} {A : Nat → Int} (hB : BRel w n K A n w1) (hC : CRel w1 w.heap.size n n wr) (hn0 : 0 < n) (hkb : kb < w.heap.size)
    (hk : ∀ j, j < n → w.cell? ⟨kb, ko + j, none⟩ = some (.string (K j))) (hw : w2 = wr.setCell ⟨w1.heap.size, 0, none⟩ (.slice (some ⟨w.heap.size, 0, none⟩) (n - 1) n)) :
    Below w.heap.size w w2 ∧ (∀ i, i < n → w2.cell? ⟨w.heap.size, i, none⟩ = some (.pointer (some ⟨w.heap.size + 1 + i, 0, none⟩)) ∧ w2.cell? ⟨w1.heap.size + 1, i, none⟩ = some (.pointer (some ⟨w.heap.size + 1 + i, 0, none⟩)) ∧
      w2.cell? ⟨w.heap.size + 1 + i, 3, none⟩ = some (.int .i64 i) ∧ w2.cell? ⟨w.heap.size + 1 + i, 6, none⟩ = some (.string (K i)) ∧ w2.cell? ⟨kb, ko + i, none⟩ = some (.string (K i))) ∧
      w2.cell? ⟨w1.heap.size, 0, none⟩ = some (.slice (some ⟨w.heap.size, 0, none⟩) (n - 1) n) ∧ w.heap.size < w1.heap.size := by
  have hs1 := hB.1
  have b12 : Below w1.heap.size w1 w2 := by rw [hw]; exact hC.1.setCell (Nat.le_refl _) _
  have b2 : Below w.heap.size w w2 := hB.2.1.trans (b12.mono (by omega))
  refine ⟨b2, fun i hi => ⟨?_, ?_, ?_, ?_, ?_⟩, ?_, by omega⟩
  · exact (b12.cell (by show w.heap.size < _; omega)).trans (hB.pcell hi)
  · rw [hw, ← hC.ocell hi hi]
    exact World.cell?_of_block (w := wr) (Below.heap_setCell _ _ _ _ (by simp))
  · exact (b12.cell (by show w.heap.size + 1 + i < _; omega)).trans (hB.2.2.2.cells hi).1
  · exact (b12.cell (by show w.heap.size + 1 + i < _; omega)).trans (hB.2.2.2.cells hi).2.1
  · exact (b2.cell hkb).trans (hk i hi)
  · rw [hw]
    have := hC.2.2.1
    simp [World.cell?, World.setCell, Array.getElem?_modify, this]

set_option maxHeartbeats 400000 in
theorem popLast_walk (ka aa : Option Addr) (n kc m ac : Nat) (K : Nat → ByteArray) (A : Nat → Int) (w : World) (hn0 : 0 < n) (hn : n ≤ 1024) (hm : m ≤ 9223372036854775807)
    (hk : Elems w ka n (fun j => .string (K j))) (ha : Elems w aa m (fun j => .int .i64 (A j))) :
    Calls Yba.prog 3 #[.slice ka n kc, .slice aa m ac] w fun e w' => e = .returned (.bool true) ∧ Below w.heap.size w w' := by
  have hmk := run_make_row' (P := Yba.prog) 24 27 (.pointer none) 8 Yba.underlying24 Yba.info27 rfl .i64 .i64 n (by omega) (by omega)
  have hne : ((n : Int) == 0) = false := by simp; omega
  have has := assert27
  have hnq := neq27
  have HB : Hid (∀ w, Elems w ka n (fun j => .string (K j)) → Elems w aa m (fun j => .int .i64 (A j)) → Calls Yba.prog 5 #[.slice ka n kc, .slice aa m ac] w fun e w' => e = .returned (.slice (some ⟨w.heap.size, 0, none⟩) n n) ∧ BRel w n K (ageOf m A) n w') := fun w h1 h2 => build_any _ _ _ _ _ _ _ _ _ hn hm h1 h2
  have H1 : Hid (Elems w ka n (fun j => .string (K j))) := hk
  have H2 : Hid (Elems w aa m (fun j => .int .i64 (A j))) := ha
  obtain ⟨kb, ko, rfl, hkb, hkc⟩ := hk hn0
  have H3 : Hid (∀ j, j < n → w.cell? ⟨kb, ko + j, none⟩ = some (.string (K j))) := hkc
  clear hk ha hkc
  go_enter Yba.func3, Yba.ntmps3
  go_wp2_with fail
  refine (HB.out _ H1.out H2.out).mono ?_
  rintro e w1 ⟨rfl, hrel⟩
  have HR : Hid (BRel w n K (ageOf m A) n w1) := hrel
  clear hrel
  go_wp2_with fail
  clear hmk
  go_loopw [8] (fun i wr => ∃ k : Nat, k ≤ n ∧ i = .int .i64 k ∧ CRel w1 w.heap.size n k wr) (fun i _ => n - (intOf i).toNat)
  case atStart => exact ⟨0, Nat.zero_le _, rfl, CRel.start _ _ _⟩
  case round =>
    obtain ⟨k, hkn, rfl, hrel⟩ := hrel
    by_cases hlt : k < n
    · have c1 := hrel.hcell.1
      have c2 : wr.cell? ⟨w.heap.size, k, none⟩ = some (.pointer (some ⟨w.heap.size + 1 + k, 0, none⟩)) := (hrel.1.cell (by have := HR.out.1; show w.heap.size < _; omega)).trans (HR.out.pcell hlt)
      have c3 := (hrel.room hlt).1
      have c4 := (hrel.room hlt).2
      have HT := (show Hid (CRel w1 w.heap.size n (k + 1) _) from hrel.step)
      clear hrel
      go_wp2
      go_roundw
      case rel => exact ⟨k + 1, hlt, by go_num, HT.out⟩
      case measure => simp [intOf]; omega
    · obtain rfl : k = n := by omega
      obtain ⟨c1, c2⟩ := hrel.hcell
      have c3 : wr.cell? ⟨w.heap.size, k - 1, none⟩ = some (.pointer (some ⟨w.heap.size + 1 + (k - 1), 0, none⟩)) := (hrel.1.cell (by have := HR.out.1; show w.heap.size < _; omega)).trans (HR.out.pcell (by omega))
      have HC : Hid (CRel w1 w.heap.size k k wr) := hrel
      clear hrel
      go_wp2_with fail
      refine (pop_any w1.heap.size w.heap.size k k _ wr hn0 hn (Nat.le_refl _) c1 c2 c3).mono ?_
      rintro e w2 ⟨rfl, hw2⟩
      obtain ⟨hb2, d1, d2, d3⟩ := popped HR.out HC.out hn0 hkb H3.out hw2
      have D1 : Hid _ := d1
      clear d1
      have d4 := D1.out (k - 1) (by omega)
      obtain ⟨d41, d42, d43, d44, d45⟩ := d4
      clear c1 c2 c3 hw2
      have hl1 : (((k - 1 : Nat) : Int) != (k : Int) - 1) = false := by rw [bne_eq_false_iff_eq]; omega
      go_wp2_with fail
      go_loopw [12] (fun v wr => ∃ i : Nat, i ≤ k - 1 ∧ v = .int .i64 i ∧ ∃ nq, wr = w2.drewN nq) (fun v _ => k - (intOf v).toNat)
      case atStart => exact ⟨0, Nat.zero_le _, rfl, 0, rfl⟩
      case round =>
        obtain ⟨i, hi, rfl, nq, rfl⟩ := hrel
        by_cases hlt2 : i < k - 1
        · obtain ⟨e1, e2, e3, e4, e5⟩ := D1.out i (by omega)
          have hli : (i : Int) < (k : Int) - 1 := by omega
          have hli2 : i < k := by omega
          go_wp2_with fail
          go_quiet (fail)
          go_wp2
          go_roundw
          case rel => exact ⟨i + 1, by omega, by go_num, _, rfl⟩
          case measure => simp [intOf]; omega
        · have hg : (((k - 1 : Nat) : Int) == (k : Int) - 1) = true := by rw [beq_iff_eq]; omega
          have hge : ¬ (i : Int) < (k : Int) - 1 := by omega
          go_wp2_with fail
          go_quiet (fail)
          go_wp2
          go_ret
          refine ⟨rfl, ?_⟩
          exact below_drewN (below_drewN hb2 _) _

set_option maxHeartbeats 400000 in
theorem popLast_none (ka : Option Addr) (v : Value) (kc : Nat) (w : World) :
    Calls Yba.prog 3 #[.slice ka 0 kc, v] w fun e w' => e = .returned (.bool true) ∧ Below w.heap.size w w' := by
  go_enter Yba.func3, Yba.ntmps3
  go_wp2
  go_ret
  exact ⟨rfl, Below.refl _ _⟩

set_option maxHeartbeats 400000 in
theorem popLast_many (ka : Option Addr) (v : Value) (n kc : Nat) (w : World) (hn : 1024 < n) :
    Calls Yba.prog 3 #[.slice ka n kc, v] w fun e w' => e = .returned (.bool true) ∧ Below w.heap.size w w' := by
  have hne : ((n : Int) == 0) = false := by simp; omega
  have hn2 : (1024 : Int) < (n : Int) := by omega
  go_enter Yba.func3, Yba.ntmps3
  go_wp2
  go_ret
  exact ⟨rfl, Below.refl _ _⟩

theorem popLast_any (ka aa : Option Addr) (n kc m ac : Nat) (K : Nat → ByteArray) (A : Nat → Int) (w : World) (hm : m ≤ 9223372036854775807)
    (hk : Elems w ka n (fun j => .string (K j))) (ha : Elems w aa m (fun j => .int .i64 (A j))) :
    Calls Yba.prog 3 #[.slice ka n kc, .slice aa m ac] w fun e w' => e = .returned (.bool true) ∧ Below w.heap.size w w' := by
  by_cases h0 : n = 0
  · subst h0; exact popLast_none ka _ kc w
  · by_cases h1 : n ≤ 1024
    · exact popLast_walk ka aa n kc m ac K A w (by omega) h1 hm hk ha
    · exact popLast_many ka _ n kc w (by omega)
end Go.Proofs.Ybulkcwbu
