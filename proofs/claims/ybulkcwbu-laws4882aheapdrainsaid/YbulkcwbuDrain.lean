import Derived.Test.YbulkcwbuHeapPop
namespace Go.Proofs.Ybulkcwbu
open Go.RowKit Go.Deep

theorem Yba.info4 : (Yba.prog.info? 4).map (fun i => (i.zero, i.size, i.bytes)) = some (some (.bool false), 1, 1) := by kernel_rfl

/-- Behind 'h', 'orig' and the copying loop the heap lies in memory, each reader at its own place. -/
theorem hw_start {w w1 wr : World} {n : Nat} {K : Nat → ByteArray} {A : Nat → Int} (hB : BRel w n K A n w1) (hC : CRel w1 w.heap.size n n wr) : HW wr w.heap.size w1.heap.size n n id K A := by
  obtain ⟨b1, b2, b3, b4⟩ := hB
  obtain ⟨c1, c2, c3, c4⟩ := hC
  refine ⟨(b3.of_block (c1.block _ (by omega))).congr (fun i hi => by simp [hi]), c3, fun i hi => (c1.block _ (by omega)).trans (b4 i hi), by omega, Nat.le_refl _, fun x hx => hx⟩

/-- The readers that have been handed out are those at the places from m on. -/
def Seen (n m : Nat) (l : Nat → Nat) (S : Nat → Bool) : Prop := ∀ d, d < n → S d = true → ∃ i, m ≤ i ∧ i < n ∧ l i = d

/-- The one that was handed out last. -/
def Prev (K : Nat → ByteArray) (A : Nat → Int) (B n m : Nat) (l : Nat → Nat) (v : Value) : Prop :=
  (m = n ∧ v = .pointer none) ∨ (m < n ∧ v = .pointer (some ⟨B + 1 + l m, 0, none⟩) ∧ ∀ i, i < m → leR K A (l m) (l i))

/-- The draining loop, when m readers are left. -/
def Dr (w : World) (K : Nat → ByteArray) (A : Nat → Int) (B hb sb n m : Nat) (v : Value) (wr : World) : Prop :=
  ∃ l S, HW wr B hb n m l K A ∧ Hp K A 0 m l ∧ Inj n l ∧ wr.rowIs (hb + 1) 27 n (fun i => .pointer (some ⟨B + 1 + i, 0, none⟩)) ∧ wr.rowIs sb 4 n (fun i => .bool (S i)) ∧ hb + 1 < sb ∧ Seen n m l S ∧ Prev K A B n m l v ∧ Below w.heap.size w wr ∧ w.heap.size ≤ B

theorem Dr.start {w w1 wr w2 : World} {n : Nat} {K : Nat → ByteArray} {A : Nat → Int} (hB : BRel w n K A n w1) (hC : CRel w1 w.heap.size n n wr) {e : Ending} (hI : InitEnd K A w.heap.size w1.heap.size n id wr e w2) :
    Dr w K A w.heap.size w1.heap.size w2.heap.size n n (.pointer none) (w2.alloc (.cells (madeCells #[.bool false] n) 4)) := by
  obtain ⟨_, l, i1, i2, i3, i4⟩ := hI
  have hs := hC.2.1
  have hs2 := i4.size
  refine ⟨l, fun _ => false, i1.of_blocks (fun k hk => blk_alloc_lt _ _ _ hk), i2, i3.inj (Nat.le_refl _) (fun _ _ _ _ h => h), ?_, World.rowIs_made w2 _ n 4, by omega, fun d _ h => (by cases h), .inl ⟨rfl, rfl⟩, ?_, Nat.le_refl _⟩
  · exact (((hC.2.2.2.congr (fun i hi => by rw [if_pos hi])).of_block (i4.block _ (by omega) (by have := hB.1; omega))).alloc _)
  · refine Below.alloc (hB.2.1.trans ⟨i4.os.trans hC.1.os, i4.tape.trans hC.1.tape, i4.output.trans hC.1.output, by omega, fun k hk => ?_⟩) (by have := hB.1; omega) _
    have hb1 := hB.1
    exact (i4.block k (by omega) (by omega)).trans (hC.1.block k (by omega))

theorem Dr.step {w wr w3 : World} {K : Nat → ByteArray} {A : Nat → Int} {B hb sb n m : Nat} {l : Nat → Nat} {S : Nat → Bool} {e : Ending}
    (h2 : Hp K A 0 m l) (h3 : Inj n l) (h1 : HW wr B hb n m l K A) (h4 : wr.rowIs (hb + 1) 27 n (fun i => .pointer (some ⟨B + 1 + i, 0, none⟩))) (h5 : wr.rowIs sb 4 n (fun i => .bool (S i))) (h6 : hb + 1 < sb) (h7 : Seen n m l S) (h9 : Below w.heap.size w wr) (h10 : w.heap.size ≤ B)
    (hm : 0 < m) (hP : PopEnd K A B hb n m l wr e w3) (w4 : World) (hh : w4.heap = (w3.setCell ⟨sb, l 0, none⟩ (.bool true)).heap) (hos : w4.os = w3.os) (htp : w4.tape = w3.tape) (hou : w4.output = w3.output) :
    Dr w K A B hb sb n (m - 1) (.pointer (some ⟨B + 1 + l 0, 0, none⟩)) w4 := by
  obtain ⟨_, l', p1, p2, p3, p4, p5⟩ := hP
  obtain ⟨g1, g2, g3, g4, g5, g6⟩ := p2
  have hBhb : B + n < hb := g4
  have hmn : m ≤ n := h1.2.2.2.2.1
  have eb : ∀ k, k ≠ sb → w4.heap[k]? = w3.heap[k]? := fun k hk => by rw [hh]; exact blk_setCell_other _ _ _ _ hk
  have r4 : w3.rowIs (hb + 1) 27 n (fun i => .pointer (some ⟨B + 1 + i, 0, none⟩)) := h4.of_block (p5.block _ h4.lt (by omega))
  have r5 : w3.rowIs sb 4 n (fun i => .bool (S i)) := h5.of_block (p5.block _ h5.lt (by omega))
  refine ⟨l', fun d => if d = l 0 then true else S d, ⟨g1.of_block (eb B (by omega)), (eb hb (by omega)).trans g2, fun i hi => (eb _ (by omega)).trans (g3 i hi), g4, g5, g6⟩, p3, p4.inj hmn h3, r4.of_block (eb _ (by omega)), ((r5.set _ _).congr (fun i _ => ?_)).of_block (by rw [hh]), h6, fun d hd hs => ?_, .inr ⟨by omega, by rw [p1], fun i hi => ?_⟩, ?_, h10⟩
  · show (if i = l 0 then _ else _) = Value.bool (if i = l 0 then true else S i)
    by_cases e : i = l 0
    · rw [if_pos e, if_pos e]
    · rw [if_neg e, if_neg e]
  · by_cases e : d = l 0
    · exact ⟨m - 1, Nat.le_refl _, by omega, by rw [p1, e]⟩
    · have hs' : S d = true := by simpa [e] using hs
      obtain ⟨i, i1, i2, i3⟩ := h7 d hd hs'
      exact ⟨i, by omega, i2, by rw [p4.past i1]; exact i3⟩
  · rw [p1]
    exact p4.all (Q := fun x => leR K A (l 0) x) h2.min i (by omega)
  · have h9s := h9.size
    exact h9.trans ⟨hos.trans p5.os, htp.trans p5.tape, hou.trans p5.output, by rw [hh]; simp; exact p5.size, fun k hk => (eb k (by omega)).trans (p5.block k (by omega) (by omega))⟩

/-- What the round reads. -/
theorem Dr.reads {K : Nat → ByteArray} {A : Nat → Int} {B hb sb n m : Nat} {l : Nat → Nat} {S : Nat → Bool} {e : Ending} {wr w3 : World}
    (h3 : Inj n l) (h1 : HW wr B hb n m l K A) (h4 : wr.rowIs (hb + 1) 27 n (fun i => .pointer (some ⟨B + 1 + i, 0, none⟩))) (h5 : wr.rowIs sb 4 n (fun i => .bool (S i))) (h6 : hb + 1 < sb) (h7 : Seen n m l S)
    (hm : 0 < m) (hP : PopEnd K A B hb n m l wr e w3) :
    (∀ x, x < n → w3.cell? ⟨B + 1 + x, 3, none⟩ = some (.int .i64 x) ∧ w3.cell? ⟨B + 1 + x, 6, none⟩ = some (.string (K x)) ∧ w3.cell? ⟨B + 1 + x, 20, none⟩ = some (.int .i64 (A x))) ∧ l 0 < n ∧
    w3.cell? ⟨hb + 1, l 0, none⟩ = some (.pointer (some ⟨B + 1 + l 0, 0, none⟩)) ∧ w3.cell? ⟨sb, l 0, none⟩ = some (.bool false) ∧ w3.frozen? ⟨sb, l 0, none⟩ = false ∧ B + n < sb := by
  obtain ⟨_, l', p1, p2, p3, p4, p5⟩ := hP
  have hmn : m ≤ n := h1.2.2.2.2.1
  have hl0 : l 0 < n := h1.2.2.2.2.2 0 (by omega)
  have hBhb : B + n < hb := h1.2.2.2.1
  have r4 : w3.rowIs (hb + 1) 27 n (fun i => .pointer (some ⟨B + 1 + i, 0, none⟩)) := h4.of_block (p5.block _ h4.lt (by omega))
  have r5 : w3.rowIs sb 4 n (fun i => .bool (S i)) := h5.of_block (p5.block _ h5.lt (by omega))
  have hS : S (l 0) = false := by
    cases hs : S (l 0) with
    | false => rfl
    | true =>
      obtain ⟨i, i1, i2, i3⟩ := h7 _ hl0 hs
      have := h3 i 0 i2 (by omega) i3
      omega
  refine ⟨fun x hx => p2.2.2.1.cells hx, hl0, r4.cell hl0, ?_, r5.frozen _, by omega⟩
  rw [r5.cell hl0, hS]

/-- One round, whole. -/
theorem Dr.round {w wr : World} {K : Nat → ByteArray} {A : Nat → Int} {B hb sb n m : Nat} {v : Value} (h : Dr w K A B hb sb n m v wr) (hm : 0 < m) :
    ∃ l, HW wr B hb n m l K A ∧ Hp K A 0 m l ∧ Prev K A B n m l v ∧ ∀ e w3, PopEnd K A B hb n m l wr e w3 →
      ((∀ x, x < n → w3.cell? ⟨B + 1 + x, 3, none⟩ = some (.int .i64 x) ∧ w3.cell? ⟨B + 1 + x, 6, none⟩ = some (.string (K x)) ∧ w3.cell? ⟨B + 1 + x, 20, none⟩ = some (.int .i64 (A x))) ∧ l 0 < n ∧
      w3.cell? ⟨hb + 1, l 0, none⟩ = some (.pointer (some ⟨B + 1 + l 0, 0, none⟩)) ∧ w3.cell? ⟨sb, l 0, none⟩ = some (.bool false) ∧ w3.frozen? ⟨sb, l 0, none⟩ = false ∧ B + n < sb) ∧
      ∀ w4 : World, w4.heap = (w3.setCell ⟨sb, l 0, none⟩ (.bool true)).heap → w4.os = w3.os → w4.tape = w3.tape → w4.output = w3.output → Dr w K A B hb sb n (m - 1) (.pointer (some ⟨B + 1 + l 0, 0, none⟩)) w4 := by
  obtain ⟨l, S, h1, h2, h3, h4, h5, h6, h7, h8, h9, h10⟩ := h
  exact ⟨l, h1, h2, h8, fun e w3 hP => ⟨Dr.reads h3 h1 h4 h5 h6 h7 hm hP, fun w4 a b c d => Dr.step h2 h3 h1 h4 h5 h6 h7 h9 h10 hm hP w4 a b c d⟩⟩

theorem Dr.done {w wr : World} {K : Nat → ByteArray} {A : Nat → Int} {B hb sb n m : Nat} {v : Value} (h : Dr w K A B hb sb n m v wr) :
    wr.cell? ⟨hb, 0, none⟩ = some (.slice (some ⟨B, 0, none⟩) m n) ∧ Below w.heap.size w wr := by
  obtain ⟨l, S, h1, h2, h3, h4, h5, h6, h7, h8, h9, h10⟩ := h
  exact ⟨h1.hcell, h9⟩
end Go.Proofs.Ybulkcwbu
